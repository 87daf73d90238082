/-
  (rtp.Header).MarshalTo: its end: the length of the extensions and the noughts behind them. Conditions: those that stand in each theorem.
-/
import Derived.Test.YtdmnflngafbobaaDoorMsz
import Derived.Test.YtdmnflngafbobaaDoorBuf
import Derived.Test.YtdmnflngafbobaaDoorOut
import Derived.Test.YtdmnflngafbobaaDoorNav
namespace Go.Proofs.YtdmnflngafbobaaDoor
open Go.RowKit
set_option linter.unusedVariables false
set_option linter.unusedSimpArgs false
set_option maxRecDepth 100000

set_option maxHeartbeats 1600000 in
theorem mto_tail {g L N M R : Nat} {A P D : List Int} {Q : Exit → Act → World → Prop} (wx : World) (u0 u2 u3 u6 u7 u8 u11 u12 u13 u14 u15 u16 u17 u18 u19 u20 u21 u22 u23 u24 u25 u26 u27 u28 u29 u30 u31 u32 u33 u34 u35 u36 u37 u38 u39 u40 u41 u42 u43 u44 u45 u46 u47 u48 u49 u50 u51 u52 u53 u54 u55 u56 u57 u58 u59 u60 u61 u62 u63 u64 u65 u66 u67 u68 u69 u70 u71 u72 u73 u74 u75 u76 u77 u78 u79 u80 u81 u82 u83 u84 u85 u86 u87 u88 u89 u90 u91 u92 u93 u94 u95 u96 u97 u98 u99 u100 u101 u102 u103 u104 u105 u106 u107 u108 u109 u110 u111 u112 u113 u114 u115 u116 u117 u118 u119 u120 u121 u122 u123 u124 u125 u126 u127 u128 u129 u130 u131 u132 u133 u134 u135 u136 u137 u138 u139 u140 u141 u142 u143 u144 u145 u146 u147 u148 u149 u150 u151 u152 u153 u154 u155 u156 u157 u158 u159 u160 u161 u162 u163 u164 u165 u166 u167 u168 u169 u170 u171 u172 u173 u174 u175 u176 u177 u178 u179 u180 u181 u182 u183 u184 u185 u186 u187 u188 u189 u190 u191 u192 u193 u194 u195 u196 u197 u198 u199 u200 u201 u202 u203 u204 u205 u206 u207 u208 u209 u210 u211 u212 u213 u214 u215 u216 u217 u218 u219 u220 u221 u222 u223 u224 u225 u226 u227 u228 u229 u230 : Value)
    (hend : ∀ (v0 v1 v2 v3 v6 v7 v8 v9 v10 v11 v12 v13 v14 v15 v16 v17 v18 v19 v20 v21 v22 v23 v24 v25 v26 v27 v28 v29 v30 v31 v32 v33 v34 v35 v36 v37 v38 v39 v40 v41 v42 v43 v44 v45 v46 v47 v48 v49 v50 v51 v52 v53 v54 v55 v56 v57 v58 v59 v60 v61 v62 v63 v64 v65 v66 v67 v68 v69 v70 v71 v72 v73 v74 v75 v76 v77 v78 v79 v80 v81 v82 v83 v84 v85 v86 v87 v88 v89 v90 v91 v92 v93 v94 v95 v96 v97 v98 v99 v100 v101 v102 v103 v104 v105 v106 v107 v108 v109 v110 v111 v112 v113 v114 v115 v116 v117 v118 v119 v120 v121 v122 v123 v124 v125 v126 v127 v128 v129 v130 v131 v132 v133 v134 v135 v136 v137 v138 v139 v140 v141 v142 v143 v144 v145 v146 v147 v148 v149 v150 v151 v152 v153 v154 v155 v156 v157 v158 v159 v160 v161 v162 v163 v164 v165 v166 v167 v168 v169 v170 v171 v172 v173 v174 v175 v176 v177 v178 v179 v180 v181 v182 v183 v184 v185 v186 v187 v188 v189 v190 v191 v192 v193 v194 v195 v196 v197 v198 v199 v200 v201 v202 v203 v204 v205 v206 v207 v208 v209 v210 v211 v212 v213 v214 v215 v216 v217 v218 v219 v220 v221 v222 v223 v224 v225 v226 v227 v228 v229 v230 : Value) (w' : World), Buf w' g (A ++ P ++ by16 ((R : Int) / 4) ++ D ++ List.replicate (R - D.length) 0) (Z8 (L - (N + 4 + R))) → Keep wx w' (· = g) → Q .normal ⟨List.toArray (v0 :: v1 :: v2 :: v3 :: .int .i64 ((N + 4 + R : Nat) : Int) :: .nilIface :: v6 :: v7 :: v8 :: v9 :: v10 :: v11 :: v12 :: v13 :: v14 :: v15 :: v16 :: v17 :: v18 :: v19 :: v20 :: v21 :: v22 :: v23 :: v24 :: v25 :: v26 :: v27 :: v28 :: v29 :: v30 :: v31 :: v32 :: v33 :: v34 :: v35 :: v36 :: v37 :: v38 :: v39 :: v40 :: v41 :: v42 :: v43 :: v44 :: v45 :: v46 :: v47 :: v48 :: v49 :: v50 :: v51 :: v52 :: v53 :: v54 :: v55 :: v56 :: v57 :: v58 :: v59 :: v60 :: v61 :: v62 :: v63 :: v64 :: v65 :: v66 :: v67 :: v68 :: v69 :: v70 :: v71 :: v72 :: v73 :: v74 :: v75 :: v76 :: v77 :: v78 :: v79 :: v80 :: v81 :: v82 :: v83 :: v84 :: v85 :: v86 :: v87 :: v88 :: v89 :: v90 :: v91 :: v92 :: v93 :: v94 :: v95 :: v96 :: v97 :: v98 :: v99 :: v100 :: v101 :: v102 :: v103 :: v104 :: v105 :: v106 :: v107 :: v108 :: v109 :: v110 :: v111 :: v112 :: v113 :: v114 :: v115 :: v116 :: v117 :: v118 :: v119 :: v120 :: v121 :: v122 :: v123 :: v124 :: v125 :: v126 :: v127 :: v128 :: v129 :: v130 :: v131 :: v132 :: v133 :: v134 :: v135 :: v136 :: v137 :: v138 :: v139 :: v140 :: v141 :: v142 :: v143 :: v144 :: v145 :: v146 :: v147 :: v148 :: v149 :: v150 :: v151 :: v152 :: v153 :: v154 :: v155 :: v156 :: v157 :: v158 :: v159 :: v160 :: v161 :: v162 :: v163 :: v164 :: v165 :: v166 :: v167 :: v168 :: v169 :: v170 :: v171 :: v172 :: v173 :: v174 :: v175 :: v176 :: v177 :: v178 :: v179 :: v180 :: v181 :: v182 :: v183 :: v184 :: v185 :: v186 :: v187 :: v188 :: v189 :: v190 :: v191 :: v192 :: v193 :: v194 :: v195 :: v196 :: v197 :: v198 :: v199 :: v200 :: v201 :: v202 :: v203 :: v204 :: v205 :: v206 :: v207 :: v208 :: v209 :: v210 :: v211 :: v212 :: v213 :: v214 :: v215 :: v216 :: v217 :: v218 :: v219 :: v220 :: v221 :: v222 :: v223 :: v224 :: v225 :: v226 :: v227 :: v228 :: v229 :: v230 :: []), []⟩ w')
    (hB : Buf wx g (A ++ P ++ [0, 0] ++ D) (Z8 (L - M))) (hA : A.length = N) (hP : P.length = 2) (hM : M = N + 4 + D.length) (hR : R = (D.length + 3) / 4 * 4) (hL : N + 4 + R ≤ L) (hRm : R ≤ 262140) (hLm : L ≤ 1099511627776) :
    Part Tryd.prog Tryd.f73 51 Q ⟨List.toArray (u0 :: .slice (some ⟨g, 0, none⟩) L L :: u2 :: u3 :: .int .i64 (M : Int) :: .nilIface :: u6 :: u7 :: u8 :: .int .i64 (N : Int) :: .int .i64 ((N : Int) + 4) :: u11 :: u12 :: u13 :: u14 :: u15 :: u16 :: u17 :: u18 :: u19 :: u20 :: u21 :: u22 :: u23 :: u24 :: u25 :: u26 :: u27 :: u28 :: u29 :: u30 :: u31 :: u32 :: u33 :: u34 :: u35 :: u36 :: u37 :: u38 :: u39 :: u40 :: u41 :: u42 :: u43 :: u44 :: u45 :: u46 :: u47 :: u48 :: u49 :: u50 :: u51 :: u52 :: u53 :: u54 :: u55 :: u56 :: u57 :: u58 :: u59 :: u60 :: u61 :: u62 :: u63 :: u64 :: u65 :: u66 :: u67 :: u68 :: u69 :: u70 :: u71 :: u72 :: u73 :: u74 :: u75 :: u76 :: u77 :: u78 :: u79 :: u80 :: u81 :: u82 :: u83 :: u84 :: u85 :: u86 :: u87 :: u88 :: u89 :: u90 :: u91 :: u92 :: u93 :: u94 :: u95 :: u96 :: u97 :: u98 :: u99 :: u100 :: u101 :: u102 :: u103 :: u104 :: u105 :: u106 :: u107 :: u108 :: u109 :: u110 :: u111 :: u112 :: u113 :: u114 :: u115 :: u116 :: u117 :: u118 :: u119 :: u120 :: u121 :: u122 :: u123 :: u124 :: u125 :: u126 :: u127 :: u128 :: u129 :: u130 :: u131 :: u132 :: u133 :: u134 :: u135 :: u136 :: u137 :: u138 :: u139 :: u140 :: u141 :: u142 :: u143 :: u144 :: u145 :: u146 :: u147 :: u148 :: u149 :: u150 :: u151 :: u152 :: u153 :: u154 :: u155 :: u156 :: u157 :: u158 :: u159 :: u160 :: u161 :: u162 :: u163 :: u164 :: u165 :: u166 :: u167 :: u168 :: u169 :: u170 :: u171 :: u172 :: u173 :: u174 :: u175 :: u176 :: u177 :: u178 :: u179 :: u180 :: u181 :: u182 :: u183 :: u184 :: u185 :: u186 :: u187 :: u188 :: u189 :: u190 :: u191 :: u192 :: u193 :: u194 :: u195 :: u196 :: u197 :: u198 :: u199 :: u200 :: u201 :: u202 :: u203 :: u204 :: u205 :: u206 :: u207 :: u208 :: u209 :: u210 :: u211 :: u212 :: u213 :: u214 :: u215 :: u216 :: u217 :: u218 :: u219 :: u220 :: u221 :: u222 :: u223 :: u224 :: u225 :: u226 :: u227 :: u228 :: u229 :: u230 :: []), []⟩ wx := by
  have HE := hide hend
  have HB := hide hB
  have HA := hide hA
  have HP := hide hP
  have HM := hide hM
  have HR := hide hR
  have hR4 : R / 4 * 4 = R := by omega
  have HR4 := hide hR4
  have hd : D.length ≤ R := by omega
  have hd' : ((D.length : Int) + 3) / 4 * 4 = (R : Int) := by omega
  have hM1 : (M : Int) - ((N : Int) + 4) = (D.length : Int) := by omega
  have hn1 : (N : Int) + 2 ≤ (N : Int) + 4 := by omega
  have hn2 : (0 : Int) ≤ (N : Int) + 2 := by omega
  have hn3 : (N : Int) + 4 ≤ (L : Int) := by omega
  have hn4 : ((N : Int) + 2).toNat = N + 2 := by omega
  have hMN : N + 4 ≤ M := by omega
  have hML : M ≤ L := by omega
  have hNL : ¬ L = N + 2 := by omega
  have hN0 : (0 : Int) ≤ (N : Int) := by omega
  have hr0 : (0 : Int) ≤ (R : Int) / 4 ∧ (R : Int) / 4 < 65536 := by omega
  have HR0 := hide hr0
  clear hend hB hA hP hM hR hR4 hr0
  refine part_open (fun c hc K hK => ?_)
  conv at hc => rhs; whnf
  subst hc
  dsimp only [xOf, yOf] at hK ⊢
  go_upto_region 53 with fail
  clear hd' hM1
  go_wp2_with fail
  refine (put16_mid (d1 := A ++ P) (d2 := D) (y0 := 0) (y1 := 0) (by have := HB.out; simpa using this) (by decide) (by have := HA.out; have := HP.out; simp; omega) HR0.out).mono ?_
  rintro e w1 ⟨rfl, b1, k1⟩
  have B1 := hide b1
  have K1 := hide k1
  have hg1 := b1.lt
  clear b1 k1
  go_wp2_with fail
  obtain ⟨C, hC⟩ : ∃ C : List Int, C = A ++ P ++ (by16 ((R : Int) / 4) ++ D) := ⟨_, rfl⟩
  have hCl : C.length = M := by rw [hC]; have := HA.out; have := HP.out; have := HM.out; simp [by16]; omega
  have B2 := hide (show Buf w1 g C (Z8 (L - M)) by rw [hC]; exact B1.out)
  have HC := hide hC
  have HCl := hide hCl
  clear hC hCl
  go_loopw [4, 18] (fun s i wr => ∃ k K : Nat, k ≤ R - D.length ∧ K = M + k ∧ i = .int .i64 (k : Int) ∧ s = .int .i64 (K : Int) ∧ Buf wr g (C ++ List.replicate k 0) (Z8 (L - K)) ∧ Keep w1 wr (· = g)) (fun _ i _ => R - D.length - (intOf i).toNat)
  case atStart => exact ⟨0, M, Nat.zero_le _, rfl, rfl, rfl, by simpa using B2.out, Keep.refl _ _⟩
  case round =>
    obtain ⟨k, K, hk, hK, rfl, rfl, b, kk⟩ := hrel
    have hMo := HM.out
    by_cases hlt : k < R - D.length
    · have BK := hide b
      have KK := hide kk
      have z := b.zcell (k := K) (by simp; have := HCl.out; omega) (by simp; have := HCl.out; omega)
      have f := b.free K
      have lg := b.lt
      have hKL : K < L := by omega
      have hHK := hide hK
      have hHM := hide hMo
      clear b kk hK hMo
      go_wp2_with fail
      go_roundw
      case rel =>
        refine ⟨k + 1, K + 1, by omega, by have := hHK.out; omega, by go_num, by go_num, ?_, ?_⟩
        · have := BK.out.z1 (by omega) (k := K) (by simp; have := HCl.out; have := hHK.out; omega) 0
          rw [show L - (K + 1) = L - K - 1 by omega, List.replicate_succ', ← List.append_assoc]
          exact this
        · exact KK.out.setg _ (fun _ => rfl) _
      case measure => simp [intOf]; omega
    · have hk2 : k = R - D.length := by omega
      have hke : (R : Int) - (D.length : Int) ≤ (k : Int) := by omega
      have hRr := HR.out
      have hK2 : K = N + 4 + R := by omega
      have BK := hide b
      have KK := hide (K1.out.trans kk fun _ _ e => e)
      have HK2 := hide hK2
      have Hk2 := hide hk2
      clear b kk hK hMo hk2 hK2 hRr
      go_wp2_with fail
      obtain rfl := HK2.out
      refine HE.out _ _ _ _ _ _ _ _ _ _ _ _ _ _ _ _ _ _ _ _ _ _ _ _ _ _ _ _ _ _ _ _ _ _ _ _ _ _ _ _ _ _ _ _ _ _ _ _ _ _ _ _ _ _ _ _ _ _ _ _ _ _ _ _ _ _ _ _ _ _ _ _ _ _ _ _ _ _ _ _ _ _ _ _ _ _ _ _ _ _ _ _ _ _ _ _ _ _ _ _ _ _ _ _ _ _ _ _ _ _ _ _ _ _ _ _ _ _ _ _ _ _ _ _ _ _ _ _ _ _ _ _ _ _ _ _ _ _ _ _ _ _ _ _ _ _ _ _ _ _ _ _ _ _ _ _ _ _ _ _ _ _ _ _ _ _ _ _ _ _ _ _ _ _ _ _ _ _ _ _ _ _ _ _ _ _ _ _ _ _ _ _ _ _ _ _ _ _ _ _ _ _ _ _ _ _ _ _ _ _ _ _ _ _ _ _ _ _ _ _ _ _ _ _ _ _ _ _ _ _ ?_ KK.out
      have hCo := HC.out
      have := BK.out
      rw [hCo, Hk2.out] at this
      simpa using this
end Go.Proofs.YtdmnflngafbobaaDoor
