/-
  (rtp.Header).MarshalTo: its extensions of one byte, of two bytes, and of a profile of one's own. Conditions: those that stand in each theorem.
-/
import Derived.Test.YtdmnflngafbobaaDoorMtoT
namespace Go.Proofs.YtdmnflngafbobaaDoor
open Go.RowKit
set_option linter.unusedVariables false
set_option linter.unusedSimpArgs false
set_option maxRecDepth 100000

theorem xsum_one : ∀ xs : List Ex, (xsb 48862 xs).length = xsum 1 xs
  | [] => rfl
  | x :: xs => by
    have := xsum_one xs
    simp only [xsb, xsum, List.flatMap_cons, List.length_append, List.map_cons, List.sum_cons, xb, if_true, List.length_cons] at this ⊢
    omega
theorem xsum_two : ∀ xs : List Ex, (xsb 4096 xs).length = xsum 2 xs
  | [] => rfl
  | x :: xs => by
    have := xsum_two xs
    simp only [xsb, xsum, List.flatMap_cons, List.length_append, List.map_cons, List.sum_cons, xb, show ¬ (4096 : Int) = 48862 by decide, if_false, List.length_cons] at this ⊢
    omega
theorem pad4_eq (n R : Nat) (h : R = (n + 3) / 4 * 4) : pad4 n = List.replicate (R - n) 0 := by
  unfold pad4
  congr 1
  omega
/-- The bytes behind a header's head. -/
theorem out_ext {hd : Hd} {e : List Int} (he : hd.ext = true) (hx : extsB hd.prof hd.exts = some e) : outB hd = headB hd ++ (by16 hd.prof ++ by16 (e.length / 4) ++ e) := by simp [outB, he, hx]
theorem xsb_take_le (prof : Int) (xs : List Ex) (k : Nat) : (xsb prof (xs.take k)).length ≤ (xsb prof xs).length := by
  have : xsb prof xs = xsb prof (xs.take k) ++ xsb prof (xs.drop k) := by
    unfold xsb
    rw [← List.flatMap_append, List.take_append_drop]
  rw [this]
  simp

set_option maxHeartbeats 1600000 in
theorem mto_one {p : Nat → Prop} {hd : Hd} {e : List Int} {A2 : Option Addr} {c2 g L N x : Nat} {sv : Value} {off : Int} {Q : Exit → Act → World → Prop} (wx : World) (u0 u3 u6 u7 u8 u10 u11 u12 u13 u14 u15 u16 u17 u18 u19 u20 u21 u22 u23 u24 u25 u26 u27 u28 u29 u30 u31 u32 u33 u34 u35 u36 u37 u38 u39 u40 u41 u42 u43 u44 u45 u46 u47 u48 u49 u50 u51 u52 u53 u54 u55 u56 u57 u58 u59 u60 u61 u62 u63 u64 u65 u66 u67 u68 u69 u70 u71 u72 u73 u74 u75 u76 u77 u78 u79 u80 u81 u82 u83 u84 u85 u86 u87 u88 u89 u90 u91 u92 u93 u94 u95 u96 u97 u98 u99 u100 u101 u102 u103 u104 u105 u106 u107 u108 u109 u110 u111 u112 u113 u114 u115 u116 u117 u118 u119 u120 u121 u122 u123 u124 u125 u126 u127 u128 u129 u130 u131 u132 u133 u134 u135 u136 u137 u138 u139 u140 u141 u142 u143 u144 u145 u146 u147 u148 u149 u150 u151 u152 u153 u154 u155 u156 u157 u158 u159 u160 u161 u162 u163 u164 u165 u166 u167 u168 u169 u170 u171 u172 u173 u174 u175 u176 u177 u178 u179 u180 u181 u182 u183 u184 u185 u186 u187 u188 u189 u190 u191 u192 u193 u194 u195 u196 u197 u198 u199 u200 u201 u202 u203 u204 u205 u206 u207 u208 u209 u210 u211 u212 u213 u214 u215 u216 u217 u218 u219 u220 u221 u222 u223 u224 u225 u226 u227 u228 u229 u230 : Value)
    (hend : ∀ (v0 v1 v2 v3 v6 v7 v8 v9 v10 v11 v12 v13 v14 v15 v16 v17 v18 v19 v20 v21 v22 v23 v24 v25 v26 v27 v28 v29 v30 v31 v32 v33 v34 v35 v36 v37 v38 v39 v40 v41 v42 v43 v44 v45 v46 v47 v48 v49 v50 v51 v52 v53 v54 v55 v56 v57 v58 v59 v60 v61 v62 v63 v64 v65 v66 v67 v68 v69 v70 v71 v72 v73 v74 v75 v76 v77 v78 v79 v80 v81 v82 v83 v84 v85 v86 v87 v88 v89 v90 v91 v92 v93 v94 v95 v96 v97 v98 v99 v100 v101 v102 v103 v104 v105 v106 v107 v108 v109 v110 v111 v112 v113 v114 v115 v116 v117 v118 v119 v120 v121 v122 v123 v124 v125 v126 v127 v128 v129 v130 v131 v132 v133 v134 v135 v136 v137 v138 v139 v140 v141 v142 v143 v144 v145 v146 v147 v148 v149 v150 v151 v152 v153 v154 v155 v156 v157 v158 v159 v160 v161 v162 v163 v164 v165 v166 v167 v168 v169 v170 v171 v172 v173 v174 v175 v176 v177 v178 v179 v180 v181 v182 v183 v184 v185 v186 v187 v188 v189 v190 v191 v192 v193 v194 v195 v196 v197 v198 v199 v200 v201 v202 v203 v204 v205 v206 v207 v208 v209 v210 v211 v212 v213 v214 v215 v216 v217 v218 v219 v220 v221 v222 v223 v224 v225 v226 v227 v228 v229 v230 : Value) (w' : World), Buf w' g (outB hd) (Z8 (L - hsize hd)) → Keep wx w' (· = g) → Q .normal ⟨List.toArray (v0 :: v1 :: v2 :: v3 :: .int .i64 (hsize hd : Nat) :: .nilIface :: v6 :: v7 :: v8 :: v9 :: v10 :: v11 :: v12 :: v13 :: v14 :: v15 :: v16 :: v17 :: v18 :: v19 :: v20 :: v21 :: v22 :: v23 :: v24 :: v25 :: v26 :: v27 :: v28 :: v29 :: v30 :: v31 :: v32 :: v33 :: v34 :: v35 :: v36 :: v37 :: v38 :: v39 :: v40 :: v41 :: v42 :: v43 :: v44 :: v45 :: v46 :: v47 :: v48 :: v49 :: v50 :: v51 :: v52 :: v53 :: v54 :: v55 :: v56 :: v57 :: v58 :: v59 :: v60 :: v61 :: v62 :: v63 :: v64 :: v65 :: v66 :: v67 :: v68 :: v69 :: v70 :: v71 :: v72 :: v73 :: v74 :: v75 :: v76 :: v77 :: v78 :: v79 :: v80 :: v81 :: v82 :: v83 :: v84 :: v85 :: v86 :: v87 :: v88 :: v89 :: v90 :: v91 :: v92 :: v93 :: v94 :: v95 :: v96 :: v97 :: v98 :: v99 :: v100 :: v101 :: v102 :: v103 :: v104 :: v105 :: v106 :: v107 :: v108 :: v109 :: v110 :: v111 :: v112 :: v113 :: v114 :: v115 :: v116 :: v117 :: v118 :: v119 :: v120 :: v121 :: v122 :: v123 :: v124 :: v125 :: v126 :: v127 :: v128 :: v129 :: v130 :: v131 :: v132 :: v133 :: v134 :: v135 :: v136 :: v137 :: v138 :: v139 :: v140 :: v141 :: v142 :: v143 :: v144 :: v145 :: v146 :: v147 :: v148 :: v149 :: v150 :: v151 :: v152 :: v153 :: v154 :: v155 :: v156 :: v157 :: v158 :: v159 :: v160 :: v161 :: v162 :: v163 :: v164 :: v165 :: v166 :: v167 :: v168 :: v169 :: v170 :: v171 :: v172 :: v173 :: v174 :: v175 :: v176 :: v177 :: v178 :: v179 :: v180 :: v181 :: v182 :: v183 :: v184 :: v185 :: v186 :: v187 :: v188 :: v189 :: v190 :: v191 :: v192 :: v193 :: v194 :: v195 :: v196 :: v197 :: v198 :: v199 :: v200 :: v201 :: v202 :: v203 :: v204 :: v205 :: v206 :: v207 :: v208 :: v209 :: v210 :: v211 :: v212 :: v213 :: v214 :: v215 :: v216 :: v217 :: v218 :: v219 :: v220 :: v221 :: v222 :: v223 :: v224 :: v225 :: v226 :: v227 :: v228 :: v229 :: v230 :: []), []⟩ w')
    (hX : XR wx p (.slice A2 hd.exts.length c2) hd.exts) (hpg : ∀ k, p k → k ≠ g) (hg : Good hd) (he : hd.ext = true) (hp : hd.prof = 48862) (hx : extsB hd.prof hd.exts = some e) (hel : e.length ≤ 262140) (hn : hd.exts.length ≤ 2147483647) (hxg : x ≠ g)
    (hB : Buf wx g (headB hd ++ by16 hd.prof) (Z8 (L - N - 2))) (hBX : Blk wx x 108 (rcells hd sv (.slice A2 hd.exts.length c2) off)) (hN : N = 12 + 4 * hd.srcs.length) (hL : hsize hd ≤ L) (hLm : L ≤ 1099511627776) :
    Part Tryd.prog Tryd.f73 25 Q ⟨List.toArray (u0 :: .slice (some ⟨g, 0, none⟩) L L :: .pointer (some ⟨x, 0, none⟩) :: u3 :: .int .i64 (N : Int) :: .nilIface :: u6 :: u7 :: u8 :: .int .i64 (N : Int) :: u10 :: u11 :: u12 :: u13 :: u14 :: u15 :: u16 :: u17 :: u18 :: u19 :: u20 :: u21 :: u22 :: u23 :: u24 :: u25 :: u26 :: u27 :: u28 :: u29 :: u30 :: u31 :: u32 :: u33 :: u34 :: u35 :: u36 :: u37 :: u38 :: u39 :: u40 :: u41 :: u42 :: u43 :: u44 :: u45 :: u46 :: u47 :: u48 :: u49 :: u50 :: u51 :: u52 :: u53 :: u54 :: u55 :: u56 :: u57 :: u58 :: u59 :: u60 :: u61 :: u62 :: u63 :: u64 :: u65 :: u66 :: u67 :: u68 :: u69 :: u70 :: u71 :: u72 :: u73 :: u74 :: u75 :: u76 :: u77 :: u78 :: u79 :: u80 :: u81 :: u82 :: u83 :: u84 :: u85 :: u86 :: u87 :: u88 :: u89 :: u90 :: u91 :: u92 :: u93 :: u94 :: u95 :: u96 :: u97 :: u98 :: u99 :: u100 :: u101 :: u102 :: u103 :: u104 :: u105 :: u106 :: u107 :: u108 :: u109 :: u110 :: u111 :: u112 :: u113 :: u114 :: u115 :: u116 :: u117 :: u118 :: u119 :: u120 :: u121 :: u122 :: u123 :: u124 :: u125 :: u126 :: u127 :: u128 :: u129 :: u130 :: u131 :: u132 :: u133 :: u134 :: u135 :: u136 :: u137 :: u138 :: u139 :: u140 :: u141 :: u142 :: u143 :: u144 :: u145 :: u146 :: u147 :: u148 :: u149 :: u150 :: u151 :: u152 :: u153 :: u154 :: u155 :: u156 :: u157 :: u158 :: u159 :: u160 :: u161 :: u162 :: u163 :: u164 :: u165 :: u166 :: u167 :: u168 :: u169 :: u170 :: u171 :: u172 :: u173 :: u174 :: u175 :: u176 :: u177 :: u178 :: u179 :: u180 :: u181 :: u182 :: u183 :: u184 :: u185 :: u186 :: u187 :: u188 :: u189 :: u190 :: u191 :: u192 :: u193 :: u194 :: u195 :: u196 :: u197 :: u198 :: u199 :: u200 :: u201 :: u202 :: u203 :: u204 :: u205 :: u206 :: u207 :: u208 :: u209 :: u210 :: u211 :: u212 :: u213 :: u214 :: u215 :: u216 :: u217 :: u218 :: u219 :: u220 :: u221 :: u222 :: u223 :: u224 :: u225 :: u226 :: u227 :: u228 :: u229 :: u230 :: []), []⟩ wx := by
  have hfa : fitsAll 48862 hd.exts = true ∧ e = xsb 48862 hd.exts ++ pad4 (xsb 48862 hd.exts).length := by
    rw [hp] at hx
    unfold extsB at hx
    rw [if_neg (by decide), if_neg (by decide)] at hx
    split at hx
    · rename_i h
      injection hx with hx
      exact ⟨h, hx.symm⟩
    · cases hx
  obtain ⟨hfa, hee⟩ := hfa
  obtain ⟨R, hR⟩ : ∃ R, R = ((xsb 48862 hd.exts).length + 3) / 4 * 4 := ⟨_, rfl⟩
  have hpd := pad4_eq _ _ hR
  have helr : e.length = R := by rw [hee, hpd]; simp; omega
  have hsz : hsize hd = N + 4 + R := by
    have e1 : xsize hd = (xsb 48862 hd.exts).length := by rw [xsum_one]; simp [xsize, hp]
    unfold hsize
    rw [he, e1, hN, hR]
    simp; omega
  have hRL : N + 4 + R ≤ L := by omega
  have hRm : R ≤ 262140 := by omega
  have hXL : (xsb 48862 hd.exts).length ≤ R := by omega
  have hsr := hg.srcs
  have hs15 : N ≤ 72 := by omega
  have HE := hide hend
  have HX := hide hX
  have HP := hide hpg
  have HG := hide hg
  have HFA := hide hfa
  have HEE := hide hee
  have HR := hide hR
  have HPD := hide hpd
  have HELR := hide helr
  have HSZ := hide hsz
  have HPR := hide hp
  have HEX := hide he
  have HEB := hide hx
  have HN := hide hN
  have B0 := hide (show Buf wx g (headB hd ++ by16 hd.prof ++ [0, 0]) (Z8 (L - (N + 4))) by have := hB.zero 2 (by omega); rw [show L - N - 2 - 2 = L - (N + 4) by omega] at this; exact this)
  have x9 := hBX.cell 9 (v := .int .u16 48862) (by rw [← hp]; rfl)
  have x10 := hBX.cell 10 (v := .slice A2 hd.exts.length c2) rfl
  have HBX := hide hBX
  have hL2 := hL
  clear hend hX hpg hg hfa hee hR hpd helr hp he hx hN hB hBX hL hL2
  refine part_open (fun c hc K hK => ?_)
  conv at hc => rhs; whnf
  subst hc
  dsimp only [xOf, yOf] at hK ⊢
  go_wp2_with fail
  go_loopw [4, 140] (fun s i wr => ∃ k M : Nat, k ≤ hd.exts.length ∧ M = N + 4 + (xsb 48862 (hd.exts.take k)).length ∧ i = .int .i64 (k : Int) ∧ s = .int .i64 (M : Int) ∧ Buf wr g (headB hd ++ by16 hd.prof ++ [0, 0] ++ xsb 48862 (hd.exts.take k)) (Z8 (L - M)) ∧ Keep wx wr (· = g)) (fun _ i _ => hd.exts.length - (intOf i).toNat)
  case atStart => exact ⟨0, N + 4, Nat.zero_le _, by simp [xsb], rfl, by go_num, by simpa [xsb] using B0.out, Keep.refl _ _⟩
  case round =>
    obtain ⟨k, M, hk, hM, rfl, rfl, hB, hK⟩ := hrel
    by_cases hlt : k < hd.exts.length
    · have hg' : hd.exts[k]? = some hd.exts[k] := List.getElem?_eq_getElem _
      obtain ⟨b, o, c', d, hv, q1, q2, q3, q4, p5, p6, q7⟩ := (HX.out.keep hK (fun i hi hp => HP.out i hp)).at_ hg'
      injection hv with e1 _ e3
      subst e1 e3
      have hf := List.all_eq_true.1 HFA.out _ (List.mem_of_getElem? hg')
      have hid := HG.out.ok.exts _ (List.mem_of_getElem? hg')
      have hsn := xsb_snoc 48862 hd.exts k _ hg'
      have hle := xsb_take_le 48862 hd.exts (k + 1)
      generalize hd.exts[k] = x' at *
      have hfi : 1 ≤ x'.id ∧ x'.id ≤ 14 ∧ 1 ≤ x'.data.length ∧ x'.data.length ≤ 16 := by simpa [fitsB] using hf
      have hxb : xb 48862 x' = (x'.id * 16 + ((x'.data.length : Int) - 1)) :: x'.data := by simp [xb]
      rw [hsn, List.length_append, hxb, List.length_cons] at hle
      have hML : M + 1 + x'.data.length ≤ L := by omega
      have hpb := HP.out b q3
      obtain ⟨A', c2', rfl⟩ := q7.shape
      have Q7 := hide q7
      have HGG := hide hg'
      have HSN := hide hsn
      have HXB := hide hxb
      have HK := hide hK
      have HB' := hide hB
      have HM := hide hM
      have hgr := hB.lt
      have hMl : M = (headB hd ++ by16 hd.prof ++ [0, 0] ++ xsb 48862 (hd.exts.take k)).length := by
        have := headB_len hd
        have := HN.out
        simp only [List.length_append, this, hM]
        simp [by16]
        omega
      have HML := hide hMl
      have z := hB.zcell (k := M) (by omega) (by omega)
      have fz := hB.free M
      have eo : bits .or .u8 (x'.id * 16) ((x'.data.length : Int) - 1) = x'.id * 16 + ((x'.data.length : Int) - 1) := or8 4 _ _ (by omega) (by omega) (by omega) (by omega) (by decide) (by omega)
      have hL1 : ¬ L = M + 1 := by omega
      have hid' := hid.1
      have HID := hide hid
      clear q7 hg' hsn hxb hK hB hM hMl hf hid
      go_upto_region 39 with fail
      generalize hw2 : World.alloc (World.setCell wr _ _) _ = w2
      have B2 := hide (show Buf w2 g (headB hd ++ by16 hd.prof ++ [0, 0] ++ xsb 48862 (hd.exts.take k) ++ [x'.id * 16 + ((x'.data.length : Int) - 1)]) (Z8 (L - M - 1)) by subst hw2; exact (HB'.out.z1 (by omega) HML.out _).alloc _)
      have K2 := hide (show Keep wr w2 (· = g) by subst hw2; exact (Keep.set1 _ _ _ _).alloc _)
      have X2 := hide (show Blk w2 wr.heap.size 139 #[.int .u8 x'.id, .slice A' x'.data.length c2'] by subst hw2; exact Blk.new' (size_set1 _ _ _).symm)
      have R2 := hide ((Q7.out.keep K2.out (fun i hi hp => HP.out i hp)).drew)
      clear hw2 z fz eo p5 p6 hid'
      have y1 := X2.out.drew.cell 1 (v := .slice A' x'.data.length c2') rfl
      have hM1 : (M : Int) + 1 ≤ (L : Int) := by omega
      have hM0 : (0 : Int) ≤ (M : Int) + 1 := by omega
      have hMn : ((M : Int) + 1).toNat = M + 1 := by omega
      have hml : M + 1 ≤ L := by omega
      have hgx : ¬ wr.heap.size = g := by omega
      have hwr : IntKind.i64.wrap ((M : Int) + 1 + (x'.data.length : Int)) = (M : Int) + 1 + (x'.data.length : Int) := by rw [IntKind.wrap_i64]; omega
      go_region_held3 (fun w' => w'.cell? ⟨wr.heap.size, 1, none⟩ = some (.slice A' x'.data.length c2'))
        (first | exact y1 | exact y2)
        (first
          | (refine step_copyZ (by rfl) _ _ (by rfl) Tryd.underlying29 (by kernel_rfl) B2.out.drew R2.out (by rfl) (by rfl) (fun _ => by simp [HML.out]) (by omega) (by omega) ?_; intro w5 hb5 hk5; have y2 := hk5.cell hgx y1; have B5 := hide hb5; have K5 := hide hk5; clear hb5 hk5))
      have B6 := hide (show Buf w5 g (headB hd ++ by16 hd.prof ++ [0, 0] ++ xsb 48862 (hd.exts.take (k + 1))) (Z8 (L - (M + 1 + x'.data.length))) by
        have := B5.out
        rw [HSN.out, HXB.out, show L - (M + 1 + x'.data.length) = L - M - 1 - x'.data.length by omega]
        simpa using this)
      have K6 := hide (HK.out.trans ((K2.out.drew).trans K5.out fun _ _ e => e) fun _ _ e => e)
      have hM' : M + 1 + x'.data.length = N + 4 + (xsb 48862 (hd.exts.take (k + 1))).length := by
        rw [HSN.out, HXB.out, List.length_append, HM.out, List.length_cons]; omega
      have HM' := hide hM'
      clear y1 y2 hM1 hM0 hMn hwr hM'
      go_wp2_with fail
      go_roundw
      case rel => exact ⟨k + 1, M + 1 + x'.data.length, by omega, HM'.out, by go_num, by go_num, B6.out, K6.out⟩
      case measure => simp [intOf]; omega
    · obtain rfl : k = hd.exts.length := by omega
      rw [List.take_length] at hM hB
      have HB := hide hB
      have HM := hide hM
      have HK := hide hK
      clear hB hM hK
      go_upto_region 51 with fail
      refine part_use (mto_tail (A := headB hd) (P := by16 hd.prof) (D := xsb 48862 hd.exts) (N := N) (M := M) (R := R) (Q := Q) wr _ _ _ _ _ _ _ _ _ _ _ _ _ _ _ _ _ _ _ _ _ _ _ _ _ _ _ _ _ _ _ _ _ _ _ _ _ _ _ _ _ _ _ _ _ _ _ _ _ _ _ _ _ _ _ _ _ _ _ _ _ _ _ _ _ _ _ _ _ _ _ _ _ _ _ _ _ _ _ _ _ _ _ _ _ _ _ _ _ _ _ _ _ _ _ _ _ _ _ _ _ _ _ _ _ _ _ _ _ _ _ _ _ _ _ _ _ _ _ _ _ _ _ _ _ _ _ _ _ _ _ _ _ _ _ _ _ _ _ _ _ _ _ _ _ _ _ _ _ _ _ _ _ _ _ _ _ _ _ _ _ _ _ _ _ _ _ _ _ _ _ _ _ _ _ _ _ _ _ _ _ _ _ _ _ _ _ _ _ _ _ _ _ _ _ _ _ _ _ _ _ _ _ _ _ _ _ _ _ _ _ _ _ _ _ _ _ _ _ _ _ _ _ _ _ _ ?_ HB.out (by rw [headB_len]; exact HN.out.symm) rfl HM.out HR.out (by omega) (by omega) (by omega)) rfl rfl (by assumption)
      intro v0 v1 v2 v3 v6 v7 v8 v9 v10 v11 v12 v13 v14 v15 v16 v17 v18 v19 v20 v21 v22 v23 v24 v25 v26 v27 v28 v29 v30 v31 v32 v33 v34 v35 v36 v37 v38 v39 v40 v41 v42 v43 v44 v45 v46 v47 v48 v49 v50 v51 v52 v53 v54 v55 v56 v57 v58 v59 v60 v61 v62 v63 v64 v65 v66 v67 v68 v69 v70 v71 v72 v73 v74 v75 v76 v77 v78 v79 v80 v81 v82 v83 v84 v85 v86 v87 v88 v89 v90 v91 v92 v93 v94 v95 v96 v97 v98 v99 v100 v101 v102 v103 v104 v105 v106 v107 v108 v109 v110 v111 v112 v113 v114 v115 v116 v117 v118 v119 v120 v121 v122 v123 v124 v125 v126 v127 v128 v129 v130 v131 v132 v133 v134 v135 v136 v137 v138 v139 v140 v141 v142 v143 v144 v145 v146 v147 v148 v149 v150 v151 v152 v153 v154 v155 v156 v157 v158 v159 v160 v161 v162 v163 v164 v165 v166 v167 v168 v169 v170 v171 v172 v173 v174 v175 v176 v177 v178 v179 v180 v181 v182 v183 v184 v185 v186 v187 v188 v189 v190 v191 v192 v193 v194 v195 v196 v197 v198 v199 v200 v201 v202 v203 v204 v205 v206 v207 v208 v209 v210 v211 v212 v213 v214 v215 v216 v217 v218 v219 v220 v221 v222 v223 v224 v225 v226 v227 v228 v229 v230 w' b kk
      have e1 : outB hd = headB hd ++ by16 hd.prof ++ by16 ((R : Int) / 4) ++ xsb 48862 hd.exts ++ List.replicate (R - (xsb 48862 hd.exts).length) 0 := by
        rw [out_ext HEX.out HEB.out, HELR.out, HEE.out, HPD.out]
        simp
      rw [← e1] at b
      rw [← hsz] at b ⊢
      exact HE.out _ _ _ _ _ _ _ _ _ _ _ _ _ _ _ _ _ _ _ _ _ _ _ _ _ _ _ _ _ _ _ _ _ _ _ _ _ _ _ _ _ _ _ _ _ _ _ _ _ _ _ _ _ _ _ _ _ _ _ _ _ _ _ _ _ _ _ _ _ _ _ _ _ _ _ _ _ _ _ _ _ _ _ _ _ _ _ _ _ _ _ _ _ _ _ _ _ _ _ _ _ _ _ _ _ _ _ _ _ _ _ _ _ _ _ _ _ _ _ _ _ _ _ _ _ _ _ _ _ _ _ _ _ _ _ _ _ _ _ _ _ _ _ _ _ _ _ _ _ _ _ _ _ _ _ _ _ _ _ _ _ _ _ _ _ _ _ _ _ _ _ _ _ _ _ _ _ _ _ _ _ _ _ _ _ _ _ _ _ _ _ _ _ _ _ _ _ _ _ _ _ _ _ _ _ _ _ _ _ _ _ _ _ _ _ _ _ _ _ _ _ _ _ _ _ _ _ _ _ _ b (HK.out.trans kk fun _ _ e => e)
set_option maxHeartbeats 1600000 in
theorem mto_two {p : Nat → Prop} {hd : Hd} {e : List Int} {A2 : Option Addr} {c2 g L N x : Nat} {sv : Value} {off : Int} {Q : Exit → Act → World → Prop} (wx : World) (u0 u3 u6 u7 u8 u10 u11 u12 u13 u14 u15 u16 u17 u18 u19 u20 u21 u22 u23 u24 u25 u26 u27 u28 u29 u30 u31 u32 u33 u34 u35 u36 u37 u38 u39 u40 u41 u42 u43 u44 u45 u46 u47 u48 u49 u50 u51 u52 u53 u54 u55 u56 u57 u58 u59 u60 u61 u62 u63 u64 u65 u66 u67 u68 u69 u70 u71 u72 u73 u74 u75 u76 u77 u78 u79 u80 u81 u82 u83 u84 u85 u86 u87 u88 u89 u90 u91 u92 u93 u94 u95 u96 u97 u98 u99 u100 u101 u102 u103 u104 u105 u106 u107 u108 u109 u110 u111 u112 u113 u114 u115 u116 u117 u118 u119 u120 u121 u122 u123 u124 u125 u126 u127 u128 u129 u130 u131 u132 u133 u134 u135 u136 u137 u138 u139 u140 u141 u142 u143 u144 u145 u146 u147 u148 u149 u150 u151 u152 u153 u154 u155 u156 u157 u158 u159 u160 u161 u162 u163 u164 u165 u166 u167 u168 u169 u170 u171 u172 u173 u174 u175 u176 u177 u178 u179 u180 u181 u182 u183 u184 u185 u186 u187 u188 u189 u190 u191 u192 u193 u194 u195 u196 u197 u198 u199 u200 u201 u202 u203 u204 u205 u206 u207 u208 u209 u210 u211 u212 u213 u214 u215 u216 u217 u218 u219 u220 u221 u222 u223 u224 u225 u226 u227 u228 u229 u230 : Value)
    (hend : ∀ (v0 v1 v2 v3 v6 v7 v8 v9 v10 v11 v12 v13 v14 v15 v16 v17 v18 v19 v20 v21 v22 v23 v24 v25 v26 v27 v28 v29 v30 v31 v32 v33 v34 v35 v36 v37 v38 v39 v40 v41 v42 v43 v44 v45 v46 v47 v48 v49 v50 v51 v52 v53 v54 v55 v56 v57 v58 v59 v60 v61 v62 v63 v64 v65 v66 v67 v68 v69 v70 v71 v72 v73 v74 v75 v76 v77 v78 v79 v80 v81 v82 v83 v84 v85 v86 v87 v88 v89 v90 v91 v92 v93 v94 v95 v96 v97 v98 v99 v100 v101 v102 v103 v104 v105 v106 v107 v108 v109 v110 v111 v112 v113 v114 v115 v116 v117 v118 v119 v120 v121 v122 v123 v124 v125 v126 v127 v128 v129 v130 v131 v132 v133 v134 v135 v136 v137 v138 v139 v140 v141 v142 v143 v144 v145 v146 v147 v148 v149 v150 v151 v152 v153 v154 v155 v156 v157 v158 v159 v160 v161 v162 v163 v164 v165 v166 v167 v168 v169 v170 v171 v172 v173 v174 v175 v176 v177 v178 v179 v180 v181 v182 v183 v184 v185 v186 v187 v188 v189 v190 v191 v192 v193 v194 v195 v196 v197 v198 v199 v200 v201 v202 v203 v204 v205 v206 v207 v208 v209 v210 v211 v212 v213 v214 v215 v216 v217 v218 v219 v220 v221 v222 v223 v224 v225 v226 v227 v228 v229 v230 : Value) (w' : World), Buf w' g (outB hd) (Z8 (L - hsize hd)) → Keep wx w' (· = g) → Q .normal ⟨List.toArray (v0 :: v1 :: v2 :: v3 :: .int .i64 (hsize hd : Nat) :: .nilIface :: v6 :: v7 :: v8 :: v9 :: v10 :: v11 :: v12 :: v13 :: v14 :: v15 :: v16 :: v17 :: v18 :: v19 :: v20 :: v21 :: v22 :: v23 :: v24 :: v25 :: v26 :: v27 :: v28 :: v29 :: v30 :: v31 :: v32 :: v33 :: v34 :: v35 :: v36 :: v37 :: v38 :: v39 :: v40 :: v41 :: v42 :: v43 :: v44 :: v45 :: v46 :: v47 :: v48 :: v49 :: v50 :: v51 :: v52 :: v53 :: v54 :: v55 :: v56 :: v57 :: v58 :: v59 :: v60 :: v61 :: v62 :: v63 :: v64 :: v65 :: v66 :: v67 :: v68 :: v69 :: v70 :: v71 :: v72 :: v73 :: v74 :: v75 :: v76 :: v77 :: v78 :: v79 :: v80 :: v81 :: v82 :: v83 :: v84 :: v85 :: v86 :: v87 :: v88 :: v89 :: v90 :: v91 :: v92 :: v93 :: v94 :: v95 :: v96 :: v97 :: v98 :: v99 :: v100 :: v101 :: v102 :: v103 :: v104 :: v105 :: v106 :: v107 :: v108 :: v109 :: v110 :: v111 :: v112 :: v113 :: v114 :: v115 :: v116 :: v117 :: v118 :: v119 :: v120 :: v121 :: v122 :: v123 :: v124 :: v125 :: v126 :: v127 :: v128 :: v129 :: v130 :: v131 :: v132 :: v133 :: v134 :: v135 :: v136 :: v137 :: v138 :: v139 :: v140 :: v141 :: v142 :: v143 :: v144 :: v145 :: v146 :: v147 :: v148 :: v149 :: v150 :: v151 :: v152 :: v153 :: v154 :: v155 :: v156 :: v157 :: v158 :: v159 :: v160 :: v161 :: v162 :: v163 :: v164 :: v165 :: v166 :: v167 :: v168 :: v169 :: v170 :: v171 :: v172 :: v173 :: v174 :: v175 :: v176 :: v177 :: v178 :: v179 :: v180 :: v181 :: v182 :: v183 :: v184 :: v185 :: v186 :: v187 :: v188 :: v189 :: v190 :: v191 :: v192 :: v193 :: v194 :: v195 :: v196 :: v197 :: v198 :: v199 :: v200 :: v201 :: v202 :: v203 :: v204 :: v205 :: v206 :: v207 :: v208 :: v209 :: v210 :: v211 :: v212 :: v213 :: v214 :: v215 :: v216 :: v217 :: v218 :: v219 :: v220 :: v221 :: v222 :: v223 :: v224 :: v225 :: v226 :: v227 :: v228 :: v229 :: v230 :: []), []⟩ w')
    (hX : XR wx p (.slice A2 hd.exts.length c2) hd.exts) (hpg : ∀ k, p k → k ≠ g) (hg : Good hd) (he : hd.ext = true) (hp : hd.prof = 4096) (hx : extsB hd.prof hd.exts = some e) (hel : e.length ≤ 262140) (hn : hd.exts.length ≤ 2147483647) (hxg : x ≠ g)
    (hB : Buf wx g (headB hd ++ by16 hd.prof) (Z8 (L - N - 2))) (hBX : Blk wx x 108 (rcells hd sv (.slice A2 hd.exts.length c2) off)) (hN : N = 12 + 4 * hd.srcs.length) (hL : hsize hd ≤ L) (hLm : L ≤ 1099511627776) :
    Part Tryd.prog Tryd.f73 25 Q ⟨List.toArray (u0 :: .slice (some ⟨g, 0, none⟩) L L :: .pointer (some ⟨x, 0, none⟩) :: u3 :: .int .i64 (N : Int) :: .nilIface :: u6 :: u7 :: u8 :: .int .i64 (N : Int) :: u10 :: u11 :: u12 :: u13 :: u14 :: u15 :: u16 :: u17 :: u18 :: u19 :: u20 :: u21 :: u22 :: u23 :: u24 :: u25 :: u26 :: u27 :: u28 :: u29 :: u30 :: u31 :: u32 :: u33 :: u34 :: u35 :: u36 :: u37 :: u38 :: u39 :: u40 :: u41 :: u42 :: u43 :: u44 :: u45 :: u46 :: u47 :: u48 :: u49 :: u50 :: u51 :: u52 :: u53 :: u54 :: u55 :: u56 :: u57 :: u58 :: u59 :: u60 :: u61 :: u62 :: u63 :: u64 :: u65 :: u66 :: u67 :: u68 :: u69 :: u70 :: u71 :: u72 :: u73 :: u74 :: u75 :: u76 :: u77 :: u78 :: u79 :: u80 :: u81 :: u82 :: u83 :: u84 :: u85 :: u86 :: u87 :: u88 :: u89 :: u90 :: u91 :: u92 :: u93 :: u94 :: u95 :: u96 :: u97 :: u98 :: u99 :: u100 :: u101 :: u102 :: u103 :: u104 :: u105 :: u106 :: u107 :: u108 :: u109 :: u110 :: u111 :: u112 :: u113 :: u114 :: u115 :: u116 :: u117 :: u118 :: u119 :: u120 :: u121 :: u122 :: u123 :: u124 :: u125 :: u126 :: u127 :: u128 :: u129 :: u130 :: u131 :: u132 :: u133 :: u134 :: u135 :: u136 :: u137 :: u138 :: u139 :: u140 :: u141 :: u142 :: u143 :: u144 :: u145 :: u146 :: u147 :: u148 :: u149 :: u150 :: u151 :: u152 :: u153 :: u154 :: u155 :: u156 :: u157 :: u158 :: u159 :: u160 :: u161 :: u162 :: u163 :: u164 :: u165 :: u166 :: u167 :: u168 :: u169 :: u170 :: u171 :: u172 :: u173 :: u174 :: u175 :: u176 :: u177 :: u178 :: u179 :: u180 :: u181 :: u182 :: u183 :: u184 :: u185 :: u186 :: u187 :: u188 :: u189 :: u190 :: u191 :: u192 :: u193 :: u194 :: u195 :: u196 :: u197 :: u198 :: u199 :: u200 :: u201 :: u202 :: u203 :: u204 :: u205 :: u206 :: u207 :: u208 :: u209 :: u210 :: u211 :: u212 :: u213 :: u214 :: u215 :: u216 :: u217 :: u218 :: u219 :: u220 :: u221 :: u222 :: u223 :: u224 :: u225 :: u226 :: u227 :: u228 :: u229 :: u230 :: []), []⟩ wx := by
  have hfa : fitsAll 4096 hd.exts = true ∧ e = xsb 4096 hd.exts ++ pad4 (xsb 4096 hd.exts).length := by
    rw [hp] at hx
    unfold extsB at hx
    rw [if_neg (by decide), if_neg (by decide)] at hx
    split at hx
    · rename_i h
      injection hx with hx
      exact ⟨h, hx.symm⟩
    · cases hx
  obtain ⟨hfa, hee⟩ := hfa
  obtain ⟨R, hR⟩ : ∃ R, R = ((xsb 4096 hd.exts).length + 3) / 4 * 4 := ⟨_, rfl⟩
  have hpd := pad4_eq _ _ hR
  have helr : e.length = R := by rw [hee, hpd]; simp; omega
  have hsz : hsize hd = N + 4 + R := by
    have e1 : xsize hd = (xsb 4096 hd.exts).length := by rw [xsum_two]; simp [xsize, hp]
    unfold hsize
    rw [he, e1, hN, hR]
    simp; omega
  have hRL : N + 4 + R ≤ L := by omega
  have hRm : R ≤ 262140 := by omega
  have hXL : (xsb 4096 hd.exts).length ≤ R := by omega
  have hsr := hg.srcs
  have hs15 : N ≤ 72 := by omega
  have HE := hide hend
  have HX := hide hX
  have HP := hide hpg
  have HG := hide hg
  have HFA := hide hfa
  have HEE := hide hee
  have HR := hide hR
  have HPD := hide hpd
  have HELR := hide helr
  have HSZ := hide hsz
  have HPR := hide hp
  have HEX := hide he
  have HEB := hide hx
  have HN := hide hN
  have B0 := hide (show Buf wx g (headB hd ++ by16 hd.prof ++ [0, 0]) (Z8 (L - (N + 4))) by have := hB.zero 2 (by omega); rw [show L - N - 2 - 2 = L - (N + 4) by omega] at this; exact this)
  have x9 := hBX.cell 9 (v := .int .u16 4096) (by rw [← hp]; rfl)
  have x10 := hBX.cell 10 (v := .slice A2 hd.exts.length c2) rfl
  have HBX := hide hBX
  have hL2 := hL
  clear hend hX hpg hg hfa hee hR hpd helr hp he hx hN hB hBX hL hL2
  refine part_open (fun c hc K hK => ?_)
  conv at hc => rhs; whnf
  subst hc
  dsimp only [xOf, yOf] at hK ⊢
  go_wp2_with fail
  go_loopw [4, 172] (fun s i wr => ∃ k M : Nat, k ≤ hd.exts.length ∧ M = N + 4 + (xsb 4096 (hd.exts.take k)).length ∧ i = .int .i64 (k : Int) ∧ s = .int .i64 (M : Int) ∧ Buf wr g (headB hd ++ by16 hd.prof ++ [0, 0] ++ xsb 4096 (hd.exts.take k)) (Z8 (L - M)) ∧ Keep wx wr (· = g)) (fun _ i _ => hd.exts.length - (intOf i).toNat)
  case atStart => exact ⟨0, N + 4, Nat.zero_le _, by simp [xsb], rfl, by go_num, by simpa [xsb] using B0.out, Keep.refl _ _⟩
  case round =>
    obtain ⟨k, M, hk, hM, rfl, rfl, hB, hK⟩ := hrel
    by_cases hlt : k < hd.exts.length
    · have hg' : hd.exts[k]? = some hd.exts[k] := List.getElem?_eq_getElem _
      obtain ⟨b, o, c', d, hv, q1, q2, q3, q4, p5, p6, q7⟩ := (HX.out.keep hK (fun i hi hp => HP.out i hp)).at_ hg'
      injection hv with e1 _ e3
      subst e1 e3
      have hf := List.all_eq_true.1 HFA.out _ (List.mem_of_getElem? hg')
      have hid := HG.out.ok.exts _ (List.mem_of_getElem? hg')
      have hsn := xsb_snoc 4096 hd.exts k _ hg'
      have hle := xsb_take_le 4096 hd.exts (k + 1)
      generalize hd.exts[k] = x' at *
      have hfi : 1 ≤ x'.id ∧ x'.data.length ≤ 255 := by simpa [fitsB] using hf
      have hxb : xb 4096 x' = x'.id :: (x'.data.length : Int) :: x'.data := by simp [xb]
      rw [hsn, List.length_append, hxb, List.length_cons, List.length_cons] at hle
      have hML : M + 2 + x'.data.length ≤ L := by omega
      have hpb := HP.out b q3
      obtain ⟨A', c2', rfl⟩ := q7.shape
      have Q7 := hide q7
      have HGG := hide hg'
      have HSN := hide hsn
      have HXB := hide hxb
      have HK := hide hK
      have HB' := hide hB
      have HM := hide hM
      have hgr := hB.lt
      have hMl : M = (headB hd ++ by16 hd.prof ++ [0, 0] ++ xsb 4096 (hd.exts.take k)).length := by
        have := headB_len hd
        have := HN.out
        simp only [List.length_append, this, hM]
        simp [by16]
        omega
      have HML := hide hMl
      have z := hB.zcell (k := M) (by omega) (by omega)
      have z' := hB.zcell (k := M + 1) (by omega) (by omega)
      have fz := hB.free M
      have fz' := hB.free (M + 1)
      have hL1 : ¬ L = M + 1 := by omega
      have hid' := hid.1
      have HID := hide hid
      clear q7 hg' hsn hxb hK hB hM hMl hf hid
      go_upto_region 49 with fail
      generalize hw2 : World.alloc (World.setCell (World.setCell wr _ _) _ _) _ = w2
      have B2 := hide (show Buf w2 g (headB hd ++ by16 hd.prof ++ [0, 0] ++ xsb 4096 (hd.exts.take k) ++ [x'.id] ++ [(x'.data.length : Int)]) (Z8 (L - M - 1 - 1)) by subst hw2; exact ((HB'.out.z1 (by omega) HML.out _).z1 (by omega) (k := M + 1) (by simp only [List.length_append, List.length_cons, List.length_nil]; have := HML.out; simp only [List.length_append, List.length_cons, List.length_nil] at this; omega) _).alloc _)
      have K2 := hide (show Keep wr w2 (· = g) by subst hw2; exact (((Keep.refl wr (· = g)).setg _ (fun _ => rfl) _).setg _ (fun _ => rfl) _).alloc _)
      have X2 := hide (show Blk w2 wr.heap.size 139 #[.int .u8 x'.id, .slice A' x'.data.length c2'] by subst hw2; exact Blk.new' (by rw [size_set1, size_set1]))
      have R2 := hide ((Q7.out.keep K2.out (fun i hi hp => HP.out i hp)).drew)
      clear hw2 z fz z' fz' p5 p6 hid'
      have y1 := X2.out.drew.cell 1 (v := .slice A' x'.data.length c2') rfl
      have hM1 : (M : Int) + 1 + 1 ≤ (L : Int) := by omega
      have hM0 : (0 : Int) ≤ (M : Int) + 1 + 1 := by omega
      have hMn : ((M : Int) + 1 + 1).toNat = M + 1 + 1 := by omega
      have hml : M + 1 + 1 ≤ L := by omega
      have hgx : ¬ wr.heap.size = g := by omega
      have hwr : IntKind.i64.wrap ((M : Int) + 1 + 1 + (x'.data.length : Int)) = (M : Int) + 1 + 1 + (x'.data.length : Int) := by rw [IntKind.wrap_i64]; omega
      go_region_held3 (fun w' => w'.cell? ⟨wr.heap.size, 1, none⟩ = some (.slice A' x'.data.length c2'))
        (first | exact y1 | exact y2)
        (first
          | (refine step_copyZ (by rfl) _ _ (by rfl) Tryd.underlying29 (by kernel_rfl) B2.out.drew R2.out (by rfl) (by rfl) (fun h0 => by rw [if_neg (by omega)]; exact congrArg (fun z => some (⟨g, z, none⟩ : Addr)) (by have hh := HML.out; simp only [List.length_append, List.length_cons, List.length_nil] at hh ⊢; omega)) (by omega) (by omega) ?_; intro w5 hb5 hk5; have y2 := hk5.cell hgx y1; have B5 := hide hb5; have K5 := hide hk5; clear hb5 hk5))
      have B6 := hide (show Buf w5 g (headB hd ++ by16 hd.prof ++ [0, 0] ++ xsb 4096 (hd.exts.take (k + 1))) (Z8 (L - (M + 2 + x'.data.length))) by
        have := B5.out
        rw [HSN.out, HXB.out, show L - (M + 2 + x'.data.length) = L - M - 1 - 1 - x'.data.length by omega]
        simpa using this)
      have K6 := hide (HK.out.trans ((K2.out.drew).trans K5.out fun _ _ e => e) fun _ _ e => e)
      have hM' : M + 2 + x'.data.length = N + 4 + (xsb 4096 (hd.exts.take (k + 1))).length := by
        rw [HSN.out, HXB.out, List.length_append, HM.out, List.length_cons, List.length_cons]; omega
      have HM' := hide hM'
      clear y1 y2 hM1 hM0 hMn hwr hM'
      go_wp2_with fail
      go_roundw
      case rel => exact ⟨k + 1, M + 2 + x'.data.length, by omega, HM'.out, by go_num, by go_num, B6.out, K6.out⟩
      case measure => simp [intOf]; omega
    · obtain rfl : k = hd.exts.length := by omega
      rw [List.take_length] at hM hB
      have HB := hide hB
      have HM := hide hM
      have HK := hide hK
      clear hB hM hK
      go_upto_region 51 with fail
      refine part_use (mto_tail (A := headB hd) (P := by16 hd.prof) (D := xsb 4096 hd.exts) (N := N) (M := M) (R := R) (Q := Q) wr _ _ _ _ _ _ _ _ _ _ _ _ _ _ _ _ _ _ _ _ _ _ _ _ _ _ _ _ _ _ _ _ _ _ _ _ _ _ _ _ _ _ _ _ _ _ _ _ _ _ _ _ _ _ _ _ _ _ _ _ _ _ _ _ _ _ _ _ _ _ _ _ _ _ _ _ _ _ _ _ _ _ _ _ _ _ _ _ _ _ _ _ _ _ _ _ _ _ _ _ _ _ _ _ _ _ _ _ _ _ _ _ _ _ _ _ _ _ _ _ _ _ _ _ _ _ _ _ _ _ _ _ _ _ _ _ _ _ _ _ _ _ _ _ _ _ _ _ _ _ _ _ _ _ _ _ _ _ _ _ _ _ _ _ _ _ _ _ _ _ _ _ _ _ _ _ _ _ _ _ _ _ _ _ _ _ _ _ _ _ _ _ _ _ _ _ _ _ _ _ _ _ _ _ _ _ _ _ _ _ _ _ _ _ _ _ _ _ _ _ _ _ _ _ _ _ ?_ HB.out (by rw [headB_len]; exact HN.out.symm) rfl HM.out HR.out (by omega) (by omega) (by omega)) rfl rfl (by assumption)
      intro v0 v1 v2 v3 v6 v7 v8 v9 v10 v11 v12 v13 v14 v15 v16 v17 v18 v19 v20 v21 v22 v23 v24 v25 v26 v27 v28 v29 v30 v31 v32 v33 v34 v35 v36 v37 v38 v39 v40 v41 v42 v43 v44 v45 v46 v47 v48 v49 v50 v51 v52 v53 v54 v55 v56 v57 v58 v59 v60 v61 v62 v63 v64 v65 v66 v67 v68 v69 v70 v71 v72 v73 v74 v75 v76 v77 v78 v79 v80 v81 v82 v83 v84 v85 v86 v87 v88 v89 v90 v91 v92 v93 v94 v95 v96 v97 v98 v99 v100 v101 v102 v103 v104 v105 v106 v107 v108 v109 v110 v111 v112 v113 v114 v115 v116 v117 v118 v119 v120 v121 v122 v123 v124 v125 v126 v127 v128 v129 v130 v131 v132 v133 v134 v135 v136 v137 v138 v139 v140 v141 v142 v143 v144 v145 v146 v147 v148 v149 v150 v151 v152 v153 v154 v155 v156 v157 v158 v159 v160 v161 v162 v163 v164 v165 v166 v167 v168 v169 v170 v171 v172 v173 v174 v175 v176 v177 v178 v179 v180 v181 v182 v183 v184 v185 v186 v187 v188 v189 v190 v191 v192 v193 v194 v195 v196 v197 v198 v199 v200 v201 v202 v203 v204 v205 v206 v207 v208 v209 v210 v211 v212 v213 v214 v215 v216 v217 v218 v219 v220 v221 v222 v223 v224 v225 v226 v227 v228 v229 v230 w' b kk
      have e1 : outB hd = headB hd ++ by16 hd.prof ++ by16 ((R : Int) / 4) ++ xsb 4096 hd.exts ++ List.replicate (R - (xsb 4096 hd.exts).length) 0 := by
        rw [out_ext HEX.out HEB.out, HELR.out, HEE.out, HPD.out]
        simp
      rw [← e1] at b
      rw [← hsz] at b ⊢
      exact HE.out _ _ _ _ _ _ _ _ _ _ _ _ _ _ _ _ _ _ _ _ _ _ _ _ _ _ _ _ _ _ _ _ _ _ _ _ _ _ _ _ _ _ _ _ _ _ _ _ _ _ _ _ _ _ _ _ _ _ _ _ _ _ _ _ _ _ _ _ _ _ _ _ _ _ _ _ _ _ _ _ _ _ _ _ _ _ _ _ _ _ _ _ _ _ _ _ _ _ _ _ _ _ _ _ _ _ _ _ _ _ _ _ _ _ _ _ _ _ _ _ _ _ _ _ _ _ _ _ _ _ _ _ _ _ _ _ _ _ _ _ _ _ _ _ _ _ _ _ _ _ _ _ _ _ _ _ _ _ _ _ _ _ _ _ _ _ _ _ _ _ _ _ _ _ _ _ _ _ _ _ _ _ _ _ _ _ _ _ _ _ _ _ _ _ _ _ _ _ _ _ _ _ _ _ _ _ _ _ _ _ _ _ _ _ _ _ _ _ _ _ _ _ _ _ _ _ _ _ _ _ b (HK.out.trans kk fun _ _ e => e)
set_option maxHeartbeats 1600000 in
theorem mto_own {p : Nat → Prop} {hd : Hd} {e : List Int} {A2 : Option Addr} {c2 g L N x : Nat} {sv : Value} {off : Int} {Q : Exit → Act → World → Prop} (wx : World) (u0 u3 u6 u7 u8 u10 u11 u12 u13 u14 u15 u16 u17 u18 u19 u20 u21 u22 u23 u24 u25 u26 u27 u28 u29 u30 u31 u32 u33 u34 u35 u36 u37 u38 u39 u40 u41 u42 u43 u44 u45 u46 u47 u48 u49 u50 u51 u52 u53 u54 u55 u56 u57 u58 u59 u60 u61 u62 u63 u64 u65 u66 u67 u68 u69 u70 u71 u72 u73 u74 u75 u76 u77 u78 u79 u80 u81 u82 u83 u84 u85 u86 u87 u88 u89 u90 u91 u92 u93 u94 u95 u96 u97 u98 u99 u100 u101 u102 u103 u104 u105 u106 u107 u108 u109 u110 u111 u112 u113 u114 u115 u116 u117 u118 u119 u120 u121 u122 u123 u124 u125 u126 u127 u128 u129 u130 u131 u132 u133 u134 u135 u136 u137 u138 u139 u140 u141 u142 u143 u144 u145 u146 u147 u148 u149 u150 u151 u152 u153 u154 u155 u156 u157 u158 u159 u160 u161 u162 u163 u164 u165 u166 u167 u168 u169 u170 u171 u172 u173 u174 u175 u176 u177 u178 u179 u180 u181 u182 u183 u184 u185 u186 u187 u188 u189 u190 u191 u192 u193 u194 u195 u196 u197 u198 u199 u200 u201 u202 u203 u204 u205 u206 u207 u208 u209 u210 u211 u212 u213 u214 u215 u216 u217 u218 u219 u220 u221 u222 u223 u224 u225 u226 u227 u228 u229 u230 : Value)
    (hend : ∀ (v0 v1 v2 v3 v6 v7 v8 v9 v10 v11 v12 v13 v14 v15 v16 v17 v18 v19 v20 v21 v22 v23 v24 v25 v26 v27 v28 v29 v30 v31 v32 v33 v34 v35 v36 v37 v38 v39 v40 v41 v42 v43 v44 v45 v46 v47 v48 v49 v50 v51 v52 v53 v54 v55 v56 v57 v58 v59 v60 v61 v62 v63 v64 v65 v66 v67 v68 v69 v70 v71 v72 v73 v74 v75 v76 v77 v78 v79 v80 v81 v82 v83 v84 v85 v86 v87 v88 v89 v90 v91 v92 v93 v94 v95 v96 v97 v98 v99 v100 v101 v102 v103 v104 v105 v106 v107 v108 v109 v110 v111 v112 v113 v114 v115 v116 v117 v118 v119 v120 v121 v122 v123 v124 v125 v126 v127 v128 v129 v130 v131 v132 v133 v134 v135 v136 v137 v138 v139 v140 v141 v142 v143 v144 v145 v146 v147 v148 v149 v150 v151 v152 v153 v154 v155 v156 v157 v158 v159 v160 v161 v162 v163 v164 v165 v166 v167 v168 v169 v170 v171 v172 v173 v174 v175 v176 v177 v178 v179 v180 v181 v182 v183 v184 v185 v186 v187 v188 v189 v190 v191 v192 v193 v194 v195 v196 v197 v198 v199 v200 v201 v202 v203 v204 v205 v206 v207 v208 v209 v210 v211 v212 v213 v214 v215 v216 v217 v218 v219 v220 v221 v222 v223 v224 v225 v226 v227 v228 v229 v230 : Value) (w' : World), Buf w' g (outB hd) (Z8 (L - hsize hd)) → Keep wx w' (· = g) → Q .normal ⟨List.toArray (v0 :: v1 :: v2 :: v3 :: .int .i64 (hsize hd : Nat) :: .nilIface :: v6 :: v7 :: v8 :: v9 :: v10 :: v11 :: v12 :: v13 :: v14 :: v15 :: v16 :: v17 :: v18 :: v19 :: v20 :: v21 :: v22 :: v23 :: v24 :: v25 :: v26 :: v27 :: v28 :: v29 :: v30 :: v31 :: v32 :: v33 :: v34 :: v35 :: v36 :: v37 :: v38 :: v39 :: v40 :: v41 :: v42 :: v43 :: v44 :: v45 :: v46 :: v47 :: v48 :: v49 :: v50 :: v51 :: v52 :: v53 :: v54 :: v55 :: v56 :: v57 :: v58 :: v59 :: v60 :: v61 :: v62 :: v63 :: v64 :: v65 :: v66 :: v67 :: v68 :: v69 :: v70 :: v71 :: v72 :: v73 :: v74 :: v75 :: v76 :: v77 :: v78 :: v79 :: v80 :: v81 :: v82 :: v83 :: v84 :: v85 :: v86 :: v87 :: v88 :: v89 :: v90 :: v91 :: v92 :: v93 :: v94 :: v95 :: v96 :: v97 :: v98 :: v99 :: v100 :: v101 :: v102 :: v103 :: v104 :: v105 :: v106 :: v107 :: v108 :: v109 :: v110 :: v111 :: v112 :: v113 :: v114 :: v115 :: v116 :: v117 :: v118 :: v119 :: v120 :: v121 :: v122 :: v123 :: v124 :: v125 :: v126 :: v127 :: v128 :: v129 :: v130 :: v131 :: v132 :: v133 :: v134 :: v135 :: v136 :: v137 :: v138 :: v139 :: v140 :: v141 :: v142 :: v143 :: v144 :: v145 :: v146 :: v147 :: v148 :: v149 :: v150 :: v151 :: v152 :: v153 :: v154 :: v155 :: v156 :: v157 :: v158 :: v159 :: v160 :: v161 :: v162 :: v163 :: v164 :: v165 :: v166 :: v167 :: v168 :: v169 :: v170 :: v171 :: v172 :: v173 :: v174 :: v175 :: v176 :: v177 :: v178 :: v179 :: v180 :: v181 :: v182 :: v183 :: v184 :: v185 :: v186 :: v187 :: v188 :: v189 :: v190 :: v191 :: v192 :: v193 :: v194 :: v195 :: v196 :: v197 :: v198 :: v199 :: v200 :: v201 :: v202 :: v203 :: v204 :: v205 :: v206 :: v207 :: v208 :: v209 :: v210 :: v211 :: v212 :: v213 :: v214 :: v215 :: v216 :: v217 :: v218 :: v219 :: v220 :: v221 :: v222 :: v223 :: v224 :: v225 :: v226 :: v227 :: v228 :: v229 :: v230 :: []), []⟩ w')
    (hX : XR wx p (.slice A2 hd.exts.length c2) hd.exts) (hpg : ∀ k, p k → k ≠ g) (hg : Good hd) (he : hd.ext = true) (h1 : hd.prof ≠ 48862) (h2 : hd.prof ≠ 4096) (hx : extsB hd.prof hd.exts = some e) (hel : e.length ≤ 262140) (hn : hd.exts.length ≤ 2147483647) (hxg : x ≠ g)
    (hB : Buf wx g (headB hd ++ by16 hd.prof) (Z8 (L - N - 2))) (hBX : Blk wx x 108 (rcells hd sv (.slice A2 hd.exts.length c2) off)) (hN : N = 12 + 4 * hd.srcs.length) (hL : hsize hd ≤ L) (hLm : L ≤ 1099511627776) :
    Part Tryd.prog Tryd.f73 25 Q ⟨List.toArray (u0 :: .slice (some ⟨g, 0, none⟩) L L :: .pointer (some ⟨x, 0, none⟩) :: u3 :: .int .i64 (N : Int) :: .nilIface :: u6 :: u7 :: u8 :: .int .i64 (N : Int) :: u10 :: u11 :: u12 :: u13 :: u14 :: u15 :: u16 :: u17 :: u18 :: u19 :: u20 :: u21 :: u22 :: u23 :: u24 :: u25 :: u26 :: u27 :: u28 :: u29 :: u30 :: u31 :: u32 :: u33 :: u34 :: u35 :: u36 :: u37 :: u38 :: u39 :: u40 :: u41 :: u42 :: u43 :: u44 :: u45 :: u46 :: u47 :: u48 :: u49 :: u50 :: u51 :: u52 :: u53 :: u54 :: u55 :: u56 :: u57 :: u58 :: u59 :: u60 :: u61 :: u62 :: u63 :: u64 :: u65 :: u66 :: u67 :: u68 :: u69 :: u70 :: u71 :: u72 :: u73 :: u74 :: u75 :: u76 :: u77 :: u78 :: u79 :: u80 :: u81 :: u82 :: u83 :: u84 :: u85 :: u86 :: u87 :: u88 :: u89 :: u90 :: u91 :: u92 :: u93 :: u94 :: u95 :: u96 :: u97 :: u98 :: u99 :: u100 :: u101 :: u102 :: u103 :: u104 :: u105 :: u106 :: u107 :: u108 :: u109 :: u110 :: u111 :: u112 :: u113 :: u114 :: u115 :: u116 :: u117 :: u118 :: u119 :: u120 :: u121 :: u122 :: u123 :: u124 :: u125 :: u126 :: u127 :: u128 :: u129 :: u130 :: u131 :: u132 :: u133 :: u134 :: u135 :: u136 :: u137 :: u138 :: u139 :: u140 :: u141 :: u142 :: u143 :: u144 :: u145 :: u146 :: u147 :: u148 :: u149 :: u150 :: u151 :: u152 :: u153 :: u154 :: u155 :: u156 :: u157 :: u158 :: u159 :: u160 :: u161 :: u162 :: u163 :: u164 :: u165 :: u166 :: u167 :: u168 :: u169 :: u170 :: u171 :: u172 :: u173 :: u174 :: u175 :: u176 :: u177 :: u178 :: u179 :: u180 :: u181 :: u182 :: u183 :: u184 :: u185 :: u186 :: u187 :: u188 :: u189 :: u190 :: u191 :: u192 :: u193 :: u194 :: u195 :: u196 :: u197 :: u198 :: u199 :: u200 :: u201 :: u202 :: u203 :: u204 :: u205 :: u206 :: u207 :: u208 :: u209 :: u210 :: u211 :: u212 :: u213 :: u214 :: u215 :: u216 :: u217 :: u218 :: u219 :: u220 :: u221 :: u222 :: u223 :: u224 :: u225 :: u226 :: u227 :: u228 :: u229 :: u230 :: []), []⟩ wx := by
  have hfa : ∃ x', hd.exts = [x'] ∧ x'.data.length % 4 = 0 ∧ e = x'.data := by
    unfold extsB at hx
    split at hx
    · cases hx
    · rw [if_pos ⟨h1, h2⟩] at hx
      unfold own1 at hx
      split at hx
      · rename_i x' hxx
        split at hx
        · rename_i h
          injection hx with hx
          exact ⟨x', hxx, h.2, hx.symm⟩
        · cases hx
      · cases hx
  obtain ⟨x', hxx, h4, hee⟩ := hfa
  obtain ⟨R, hR⟩ : ∃ R, R = (e.length + 3) / 4 * 4 := ⟨_, rfl⟩
  have helr : e.length = R := by rw [hee] at hR ⊢; omega
  have hsz : hsize hd = N + 4 + R := by
    have e1 : xsize hd = e.length := by simp [xsize, h1, h2, hxx, hee]
    unfold hsize
    rw [he, e1, hN, hR]
    simp; omega
  have hRL : N + 4 + R ≤ L := by omega
  have hRm : R ≤ 262140 := by omega
  have hsr := hg.srcs
  have hs15 : N ≤ 72 := by omega
  have HE := hide hend
  have HX := hide hX
  have HP := hide hpg
  have HG := hide hg
  have HEE := hide hee
  have HR := hide hR
  have HELR := hide helr
  have HSZ := hide hsz
  have HEX := hide he
  have HEB := hide hx
  have HN := hide hN
  have B0 := hide (show Buf wx g (headB hd ++ by16 hd.prof ++ [0, 0]) (Z8 (L - (N + 4))) by have := hB.zero 2 (by omega); rw [show L - N - 2 - 2 = L - (N + 4) by omega] at this; exact this)
  have x9 := hBX.cell 9 (v := .int .u16 hd.prof) rfl
  have g1 : (hd.prof == 48862) = false := by simpa using h1
  have g2 : (hd.prof == 4096) = false := by simpa using h2
  have x10 := hBX.cell 10 (v := .slice A2 hd.exts.length c2) rfl
  have HBX := hide hBX
  have hg' : hd.exts[0]? = some x' := by rw [hxx]; rfl
  obtain ⟨b, o, c', d, hv, q1, q2, q3, q4, p5, p6, q7⟩ := hX.at_ hg'
  injection hv with e1 _ e3
  subst e1 e3
  have hxl : e.length = x'.data.length := by rw [hee]
  have hxp : 0 < hd.exts.length := by rw [hxx]; simp
  have hxp' : (0 : Int) < (hd.exts.length : Int) := by omega
  simp only [Nat.zero_mul, Nat.add_zero] at p5 p6
  have hbg := hpg b q3
  obtain ⟨A', c2', rfl⟩ := q7.shape
  have h4' : (x'.data.length : Int) % 4 = 0 := by omega
  have H4 := hide h4
  have Q7 := hide q7
  have hML : N + 4 + x'.data.length ≤ L := by omega
  have HXL := hide hxl
  clear hend hX hpg hg hee hR helr he hx hN hB hBX hL hxx hg' q7 h4 hxl
  refine part_open (fun c hc K hK => ?_)
  conv at hc => rhs; whnf
  subst hc
  dsimp only [xOf, yOf] at hK ⊢
  go_upto_region 32 with fail
  have B2 := hide B0.out.drew
  have R2 := hide Q7.out.drew
  have y1 := HBX.out.drew.cell 10 (v := .slice (some ⟨b, o, none⟩) hd.exts.length c2) rfl
  have y2 : wx.drew.cell? ⟨b, o + 1, none⟩ = some (.slice A' x'.data.length c2') := p6
  have hM1 : (N : Int) + 4 ≤ (L : Int) := by omega
  have hM0 : (0 : Int) ≤ (N : Int) + 4 := by omega
  have hMn : ((N : Int) + 4).toNat = N + 4 := by omega
  have hml : N + 4 ≤ L := by omega
  have hbg' : ¬ b = g := hbg
  have hxg' : ¬ x = g := hxg
  have hwr : IntKind.i64.wrap ((N : Int) + 4 + (x'.data.length : Int)) = (N : Int) + 4 + (x'.data.length : Int) := by rw [IntKind.wrap_i64]; omega
  clear h4' x9 x10 p5 p6
  go_region_held3 (fun w' => w'.cell? ⟨x, 10, none⟩ = some (.slice (some ⟨b, o, none⟩) hd.exts.length c2) ∧ w'.cell? ⟨b, o + 1, none⟩ = some (.slice A' x'.data.length c2'))
    (first | exact ⟨y1, y2⟩ | exact ⟨z1, z2⟩)
    (first
      | (refine step_copyZ (by rfl) _ _ (by rfl) Tryd.underlying29 (by kernel_rfl) B2.out R2.out (by rfl) (by rfl) (fun h0 => by rw [if_neg (by omega)]; exact congrArg (fun z => some (⟨g, z, none⟩ : Addr)) (by have hh := HN.out; simp only [List.length_append, List.length_cons, List.length_nil, headB_len, by16]; omega)) (by omega) (by omega) ?_; intro w5 hb5 hk5; have z1 := hk5.cell hxg' y1; have z2 := hk5.cell hbg' y2; have B5 := hide hb5; have K5 := hide hk5; clear hb5 hk5))
  have HM : Hid (N + 4 + x'.data.length = N + 4 + e.length) := hide (by rw [HXL.out])
  clear y1 y2 hM1 hM0 hMn hwr z1 z2
  go_upto_region 51 with fail
  refine part_use (mto_tail (A := headB hd) (P := by16 hd.prof) (D := e) (N := N) (M := N + 4 + x'.data.length) (R := R) (Q := Q) w5 _ _ _ _ _ _ _ _ _ _ _ _ _ _ _ _ _ _ _ _ _ _ _ _ _ _ _ _ _ _ _ _ _ _ _ _ _ _ _ _ _ _ _ _ _ _ _ _ _ _ _ _ _ _ _ _ _ _ _ _ _ _ _ _ _ _ _ _ _ _ _ _ _ _ _ _ _ _ _ _ _ _ _ _ _ _ _ _ _ _ _ _ _ _ _ _ _ _ _ _ _ _ _ _ _ _ _ _ _ _ _ _ _ _ _ _ _ _ _ _ _ _ _ _ _ _ _ _ _ _ _ _ _ _ _ _ _ _ _ _ _ _ _ _ _ _ _ _ _ _ _ _ _ _ _ _ _ _ _ _ _ _ _ _ _ _ _ _ _ _ _ _ _ _ _ _ _ _ _ _ _ _ _ _ _ _ _ _ _ _ _ _ _ _ _ _ _ _ _ _ _ _ _ _ _ _ _ _ _ _ _ _ _ _ _ _ _ _ _ _ _ _ _ _ _ _ ?_ (by have hb := B5.out; rw [show x'.data = e from HEE.out.symm] at hb ⊢; rw [show L - (N + 4 + e.length) = L - (N + 4) - e.length by omega]; exact hb) (by rw [headB_len]; exact HN.out.symm) rfl HM.out HR.out (by omega) (by omega) (by omega)) rfl rfl (by assumption)
  intro v0 v1 v2 v3 v6 v7 v8 v9 v10 v11 v12 v13 v14 v15 v16 v17 v18 v19 v20 v21 v22 v23 v24 v25 v26 v27 v28 v29 v30 v31 v32 v33 v34 v35 v36 v37 v38 v39 v40 v41 v42 v43 v44 v45 v46 v47 v48 v49 v50 v51 v52 v53 v54 v55 v56 v57 v58 v59 v60 v61 v62 v63 v64 v65 v66 v67 v68 v69 v70 v71 v72 v73 v74 v75 v76 v77 v78 v79 v80 v81 v82 v83 v84 v85 v86 v87 v88 v89 v90 v91 v92 v93 v94 v95 v96 v97 v98 v99 v100 v101 v102 v103 v104 v105 v106 v107 v108 v109 v110 v111 v112 v113 v114 v115 v116 v117 v118 v119 v120 v121 v122 v123 v124 v125 v126 v127 v128 v129 v130 v131 v132 v133 v134 v135 v136 v137 v138 v139 v140 v141 v142 v143 v144 v145 v146 v147 v148 v149 v150 v151 v152 v153 v154 v155 v156 v157 v158 v159 v160 v161 v162 v163 v164 v165 v166 v167 v168 v169 v170 v171 v172 v173 v174 v175 v176 v177 v178 v179 v180 v181 v182 v183 v184 v185 v186 v187 v188 v189 v190 v191 v192 v193 v194 v195 v196 v197 v198 v199 v200 v201 v202 v203 v204 v205 v206 v207 v208 v209 v210 v211 v212 v213 v214 v215 v216 v217 v218 v219 v220 v221 v222 v223 v224 v225 v226 v227 v228 v229 v230 w' b kk
  have e1 : outB hd = headB hd ++ by16 hd.prof ++ by16 ((R : Int) / 4) ++ e ++ List.replicate (R - e.length) 0 := by
    rw [out_ext HEX.out HEB.out, HELR.out]
    simp
  rw [← e1] at b
  rw [← hsz] at b ⊢
  exact HE.out _ _ _ _ _ _ _ _ _ _ _ _ _ _ _ _ _ _ _ _ _ _ _ _ _ _ _ _ _ _ _ _ _ _ _ _ _ _ _ _ _ _ _ _ _ _ _ _ _ _ _ _ _ _ _ _ _ _ _ _ _ _ _ _ _ _ _ _ _ _ _ _ _ _ _ _ _ _ _ _ _ _ _ _ _ _ _ _ _ _ _ _ _ _ _ _ _ _ _ _ _ _ _ _ _ _ _ _ _ _ _ _ _ _ _ _ _ _ _ _ _ _ _ _ _ _ _ _ _ _ _ _ _ _ _ _ _ _ _ _ _ _ _ _ _ _ _ _ _ _ _ _ _ _ _ _ _ _ _ _ _ _ _ _ _ _ _ _ _ _ _ _ _ _ _ _ _ _ _ _ _ _ _ _ _ _ _ _ _ _ _ _ _ _ _ _ _ _ _ _ _ _ _ _ _ _ _ _ _ _ _ _ _ _ _ _ _ _ _ _ _ _ _ _ _ _ _ _ _ _ b (((Keep.refl wx _).drew).trans (K5.out.trans kk fun _ _ e => e) fun _ _ e => e)

/-- All profiles. -/
theorem mto_ext {p : Nat → Prop} {hd : Hd} {e : List Int} {A2 : Option Addr} {c2 g L N x : Nat} {sv : Value} {off : Int} {Q : Exit → Act → World → Prop} (wx : World) (u0 u3 u6 u7 u8 u10 u11 u12 u13 u14 u15 u16 u17 u18 u19 u20 u21 u22 u23 u24 u25 u26 u27 u28 u29 u30 u31 u32 u33 u34 u35 u36 u37 u38 u39 u40 u41 u42 u43 u44 u45 u46 u47 u48 u49 u50 u51 u52 u53 u54 u55 u56 u57 u58 u59 u60 u61 u62 u63 u64 u65 u66 u67 u68 u69 u70 u71 u72 u73 u74 u75 u76 u77 u78 u79 u80 u81 u82 u83 u84 u85 u86 u87 u88 u89 u90 u91 u92 u93 u94 u95 u96 u97 u98 u99 u100 u101 u102 u103 u104 u105 u106 u107 u108 u109 u110 u111 u112 u113 u114 u115 u116 u117 u118 u119 u120 u121 u122 u123 u124 u125 u126 u127 u128 u129 u130 u131 u132 u133 u134 u135 u136 u137 u138 u139 u140 u141 u142 u143 u144 u145 u146 u147 u148 u149 u150 u151 u152 u153 u154 u155 u156 u157 u158 u159 u160 u161 u162 u163 u164 u165 u166 u167 u168 u169 u170 u171 u172 u173 u174 u175 u176 u177 u178 u179 u180 u181 u182 u183 u184 u185 u186 u187 u188 u189 u190 u191 u192 u193 u194 u195 u196 u197 u198 u199 u200 u201 u202 u203 u204 u205 u206 u207 u208 u209 u210 u211 u212 u213 u214 u215 u216 u217 u218 u219 u220 u221 u222 u223 u224 u225 u226 u227 u228 u229 u230 : Value)
    (hend : ∀ (v0 v1 v2 v3 v6 v7 v8 v9 v10 v11 v12 v13 v14 v15 v16 v17 v18 v19 v20 v21 v22 v23 v24 v25 v26 v27 v28 v29 v30 v31 v32 v33 v34 v35 v36 v37 v38 v39 v40 v41 v42 v43 v44 v45 v46 v47 v48 v49 v50 v51 v52 v53 v54 v55 v56 v57 v58 v59 v60 v61 v62 v63 v64 v65 v66 v67 v68 v69 v70 v71 v72 v73 v74 v75 v76 v77 v78 v79 v80 v81 v82 v83 v84 v85 v86 v87 v88 v89 v90 v91 v92 v93 v94 v95 v96 v97 v98 v99 v100 v101 v102 v103 v104 v105 v106 v107 v108 v109 v110 v111 v112 v113 v114 v115 v116 v117 v118 v119 v120 v121 v122 v123 v124 v125 v126 v127 v128 v129 v130 v131 v132 v133 v134 v135 v136 v137 v138 v139 v140 v141 v142 v143 v144 v145 v146 v147 v148 v149 v150 v151 v152 v153 v154 v155 v156 v157 v158 v159 v160 v161 v162 v163 v164 v165 v166 v167 v168 v169 v170 v171 v172 v173 v174 v175 v176 v177 v178 v179 v180 v181 v182 v183 v184 v185 v186 v187 v188 v189 v190 v191 v192 v193 v194 v195 v196 v197 v198 v199 v200 v201 v202 v203 v204 v205 v206 v207 v208 v209 v210 v211 v212 v213 v214 v215 v216 v217 v218 v219 v220 v221 v222 v223 v224 v225 v226 v227 v228 v229 v230 : Value) (w' : World), Buf w' g (outB hd) (Z8 (L - hsize hd)) → Keep wx w' (· = g) → Q .normal ⟨List.toArray (v0 :: v1 :: v2 :: v3 :: .int .i64 (hsize hd : Nat) :: .nilIface :: v6 :: v7 :: v8 :: v9 :: v10 :: v11 :: v12 :: v13 :: v14 :: v15 :: v16 :: v17 :: v18 :: v19 :: v20 :: v21 :: v22 :: v23 :: v24 :: v25 :: v26 :: v27 :: v28 :: v29 :: v30 :: v31 :: v32 :: v33 :: v34 :: v35 :: v36 :: v37 :: v38 :: v39 :: v40 :: v41 :: v42 :: v43 :: v44 :: v45 :: v46 :: v47 :: v48 :: v49 :: v50 :: v51 :: v52 :: v53 :: v54 :: v55 :: v56 :: v57 :: v58 :: v59 :: v60 :: v61 :: v62 :: v63 :: v64 :: v65 :: v66 :: v67 :: v68 :: v69 :: v70 :: v71 :: v72 :: v73 :: v74 :: v75 :: v76 :: v77 :: v78 :: v79 :: v80 :: v81 :: v82 :: v83 :: v84 :: v85 :: v86 :: v87 :: v88 :: v89 :: v90 :: v91 :: v92 :: v93 :: v94 :: v95 :: v96 :: v97 :: v98 :: v99 :: v100 :: v101 :: v102 :: v103 :: v104 :: v105 :: v106 :: v107 :: v108 :: v109 :: v110 :: v111 :: v112 :: v113 :: v114 :: v115 :: v116 :: v117 :: v118 :: v119 :: v120 :: v121 :: v122 :: v123 :: v124 :: v125 :: v126 :: v127 :: v128 :: v129 :: v130 :: v131 :: v132 :: v133 :: v134 :: v135 :: v136 :: v137 :: v138 :: v139 :: v140 :: v141 :: v142 :: v143 :: v144 :: v145 :: v146 :: v147 :: v148 :: v149 :: v150 :: v151 :: v152 :: v153 :: v154 :: v155 :: v156 :: v157 :: v158 :: v159 :: v160 :: v161 :: v162 :: v163 :: v164 :: v165 :: v166 :: v167 :: v168 :: v169 :: v170 :: v171 :: v172 :: v173 :: v174 :: v175 :: v176 :: v177 :: v178 :: v179 :: v180 :: v181 :: v182 :: v183 :: v184 :: v185 :: v186 :: v187 :: v188 :: v189 :: v190 :: v191 :: v192 :: v193 :: v194 :: v195 :: v196 :: v197 :: v198 :: v199 :: v200 :: v201 :: v202 :: v203 :: v204 :: v205 :: v206 :: v207 :: v208 :: v209 :: v210 :: v211 :: v212 :: v213 :: v214 :: v215 :: v216 :: v217 :: v218 :: v219 :: v220 :: v221 :: v222 :: v223 :: v224 :: v225 :: v226 :: v227 :: v228 :: v229 :: v230 :: []), []⟩ w')
    (hX : XR wx p (.slice A2 hd.exts.length c2) hd.exts) (hpg : ∀ k, p k → k ≠ g) (hg : Good hd) (he : hd.ext = true) (hx : extsB hd.prof hd.exts = some e) (hel : e.length ≤ 262140) (hn : hd.exts.length ≤ 2147483647) (hxg : x ≠ g)
    (hB : Buf wx g (headB hd ++ by16 hd.prof) (Z8 (L - N - 2))) (hBX : Blk wx x 108 (rcells hd sv (.slice A2 hd.exts.length c2) off)) (hN : N = 12 + 4 * hd.srcs.length) (hL : hsize hd ≤ L) (hLm : L ≤ 1099511627776) :
    Part Tryd.prog Tryd.f73 25 Q ⟨List.toArray (u0 :: .slice (some ⟨g, 0, none⟩) L L :: .pointer (some ⟨x, 0, none⟩) :: u3 :: .int .i64 (N : Int) :: .nilIface :: u6 :: u7 :: u8 :: .int .i64 (N : Int) :: u10 :: u11 :: u12 :: u13 :: u14 :: u15 :: u16 :: u17 :: u18 :: u19 :: u20 :: u21 :: u22 :: u23 :: u24 :: u25 :: u26 :: u27 :: u28 :: u29 :: u30 :: u31 :: u32 :: u33 :: u34 :: u35 :: u36 :: u37 :: u38 :: u39 :: u40 :: u41 :: u42 :: u43 :: u44 :: u45 :: u46 :: u47 :: u48 :: u49 :: u50 :: u51 :: u52 :: u53 :: u54 :: u55 :: u56 :: u57 :: u58 :: u59 :: u60 :: u61 :: u62 :: u63 :: u64 :: u65 :: u66 :: u67 :: u68 :: u69 :: u70 :: u71 :: u72 :: u73 :: u74 :: u75 :: u76 :: u77 :: u78 :: u79 :: u80 :: u81 :: u82 :: u83 :: u84 :: u85 :: u86 :: u87 :: u88 :: u89 :: u90 :: u91 :: u92 :: u93 :: u94 :: u95 :: u96 :: u97 :: u98 :: u99 :: u100 :: u101 :: u102 :: u103 :: u104 :: u105 :: u106 :: u107 :: u108 :: u109 :: u110 :: u111 :: u112 :: u113 :: u114 :: u115 :: u116 :: u117 :: u118 :: u119 :: u120 :: u121 :: u122 :: u123 :: u124 :: u125 :: u126 :: u127 :: u128 :: u129 :: u130 :: u131 :: u132 :: u133 :: u134 :: u135 :: u136 :: u137 :: u138 :: u139 :: u140 :: u141 :: u142 :: u143 :: u144 :: u145 :: u146 :: u147 :: u148 :: u149 :: u150 :: u151 :: u152 :: u153 :: u154 :: u155 :: u156 :: u157 :: u158 :: u159 :: u160 :: u161 :: u162 :: u163 :: u164 :: u165 :: u166 :: u167 :: u168 :: u169 :: u170 :: u171 :: u172 :: u173 :: u174 :: u175 :: u176 :: u177 :: u178 :: u179 :: u180 :: u181 :: u182 :: u183 :: u184 :: u185 :: u186 :: u187 :: u188 :: u189 :: u190 :: u191 :: u192 :: u193 :: u194 :: u195 :: u196 :: u197 :: u198 :: u199 :: u200 :: u201 :: u202 :: u203 :: u204 :: u205 :: u206 :: u207 :: u208 :: u209 :: u210 :: u211 :: u212 :: u213 :: u214 :: u215 :: u216 :: u217 :: u218 :: u219 :: u220 :: u221 :: u222 :: u223 :: u224 :: u225 :: u226 :: u227 :: u228 :: u229 :: u230 :: []), []⟩ wx := by
  by_cases h1 : hd.prof = 48862
  · exact mto_one wx _ _ _ _ _ _ _ _ _ _ _ _ _ _ _ _ _ _ _ _ _ _ _ _ _ _ _ _ _ _ _ _ _ _ _ _ _ _ _ _ _ _ _ _ _ _ _ _ _ _ _ _ _ _ _ _ _ _ _ _ _ _ _ _ _ _ _ _ _ _ _ _ _ _ _ _ _ _ _ _ _ _ _ _ _ _ _ _ _ _ _ _ _ _ _ _ _ _ _ _ _ _ _ _ _ _ _ _ _ _ _ _ _ _ _ _ _ _ _ _ _ _ _ _ _ _ _ _ _ _ _ _ _ _ _ _ _ _ _ _ _ _ _ _ _ _ _ _ _ _ _ _ _ _ _ _ _ _ _ _ _ _ _ _ _ _ _ _ _ _ _ _ _ _ _ _ _ _ _ _ _ _ _ _ _ _ _ _ _ _ _ _ _ _ _ _ _ _ _ _ _ _ _ _ _ _ _ _ _ _ _ _ _ _ _ _ _ _ _ _ _ _ _ _ _ _ hend hX hpg hg he h1 hx hel hn hxg hB hBX hN hL hLm
  · by_cases h2 : hd.prof = 4096
    · exact mto_two wx _ _ _ _ _ _ _ _ _ _ _ _ _ _ _ _ _ _ _ _ _ _ _ _ _ _ _ _ _ _ _ _ _ _ _ _ _ _ _ _ _ _ _ _ _ _ _ _ _ _ _ _ _ _ _ _ _ _ _ _ _ _ _ _ _ _ _ _ _ _ _ _ _ _ _ _ _ _ _ _ _ _ _ _ _ _ _ _ _ _ _ _ _ _ _ _ _ _ _ _ _ _ _ _ _ _ _ _ _ _ _ _ _ _ _ _ _ _ _ _ _ _ _ _ _ _ _ _ _ _ _ _ _ _ _ _ _ _ _ _ _ _ _ _ _ _ _ _ _ _ _ _ _ _ _ _ _ _ _ _ _ _ _ _ _ _ _ _ _ _ _ _ _ _ _ _ _ _ _ _ _ _ _ _ _ _ _ _ _ _ _ _ _ _ _ _ _ _ _ _ _ _ _ _ _ _ _ _ _ _ _ _ _ _ _ _ _ _ _ _ _ _ _ _ _ _ hend hX hpg hg he h2 hx hel hn hxg hB hBX hN hL hLm
    · exact mto_own wx _ _ _ _ _ _ _ _ _ _ _ _ _ _ _ _ _ _ _ _ _ _ _ _ _ _ _ _ _ _ _ _ _ _ _ _ _ _ _ _ _ _ _ _ _ _ _ _ _ _ _ _ _ _ _ _ _ _ _ _ _ _ _ _ _ _ _ _ _ _ _ _ _ _ _ _ _ _ _ _ _ _ _ _ _ _ _ _ _ _ _ _ _ _ _ _ _ _ _ _ _ _ _ _ _ _ _ _ _ _ _ _ _ _ _ _ _ _ _ _ _ _ _ _ _ _ _ _ _ _ _ _ _ _ _ _ _ _ _ _ _ _ _ _ _ _ _ _ _ _ _ _ _ _ _ _ _ _ _ _ _ _ _ _ _ _ _ _ _ _ _ _ _ _ _ _ _ _ _ _ _ _ _ _ _ _ _ _ _ _ _ _ _ _ _ _ _ _ _ _ _ _ _ _ _ _ _ _ _ _ _ _ _ _ _ _ _ _ _ _ _ _ _ _ _ _ hend hX hpg hg he h1 h2 hx hel hn hxg hB hBX hN hL hLm
end Go.Proofs.YtdmnflngafbobaaDoor
