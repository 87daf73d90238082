/-
  The law FnLayers: all layers that it makes. Conditions: those that stand in each theorem.
-/
import Derived.Test.YtdlnmkpojiofoaaDoorVl31
namespace Go.Proofs.YtdlnmkpojiofoaaDoor
open Go.RowKit
set_option linter.unusedVariables false
set_option linter.unusedSimpArgs false
set_option maxRecDepth 100000

set_option maxHeartbeats 6400000 in
theorem fl_p6 {P : Pv} {zs : List Int} {p : Nat → Prop} {n gl B : Nat} {v : Value} {sz : Bool} {Q : Exit → Act → World → Prop} (w : World) (u5 u6 u7 u8 u9 u10 u12 u13 u14 u15 u16 u17 u18 u19 u20 u21 u22 u23 u24 u25 u26 u27 u28 u29 u30 u31 u32 u33 u34 u35 u36 u37 u38 u39 u40 u41 u42 u43 u44 u45 u46 u47 u48 u49 u50 u51 u52 u53 u54 u55 u56 u57 u58 u59 u60 u61 u62 u63 u64 u65 u66 u67 u68 u69 u70 u71 u72 u73 u74 u75 u76 u77 u78 u79 u80 u81 u82 u83 u84 u85 u86 u87 u88 u89 u90 u91 u92 u93 u94 u95 u96 u97 u98 u99 u100 u101 u102 u103 u104 u105 u106 u107 u108 u109 u110 u111 u112 u113 u114 u115 u116 u117 u118 u119 u120 u121 u122 u123 u124 u125 u126 u127 u128 u129 u130 u131 u132 u133 u134 u135 u136 u137 u138 u139 u140 u141 u142 u143 u144 u145 u146 u147 u148 u149 u150 u151 u152 u153 u154 u155 u156 u157 u158 u159 u160 u161 u162 u163 u164 u165 u166 u167 u168 u169 u170 u171 u172 u173 u174 u175 u176 u177 u178 u179 u180 u181 u182 u183 u184 u185 u186 u187 u188 u189 u190 u191 u192 u193 u194 u195 u196 u197 u198 u199 u200 u201 u202 u203 u204 u205 u206 u207 u208 u209 u210 u211 u212 u213 u214 u215 u216 u217 u218 u219 u220 u221 u222 u223 u224 u225 u226 u227 u228 u229 u230 u231 u232 u233 u234 u235 u236 u237 u238 u239 u240 u241 u242 : Value)
    (hP : P.Ok) (hsz : P.sized = sz) (hrs : P.rs = ratesOf 0 zs) (hz : ∀ z ∈ zs, 0 ≤ z ∧ z < 4294967296) (hv : Rd w p 1 v n (U32 zs)) (hp : ∀ q, p q → q < gl)
    (hb : Blk w gl 44 #[.int .i64 (P.st : Nat), .int .i64 (P.S : Nat), .slice none 0 0, .bool sz]) (hgB : gl < B) (hBw : B ≤ w.heap.size)
    (hQ : ∀ (w' : World) (v12 v13 v14 v15 v16 v67 v68 v69 v70 v71 v72 v73 v74 v75 v76 v77 v78 v79 v80 v81 v82 v83 v84 v85 v86 v87 v88 v89 v90 v91 v92 v93 v94 v95 v96 v97 v98 v99 v100 v101 v102 v103 v104 v105 v106 v107 v108 v109 v110 v111 v112 v113 v114 v115 v116 : Value) (A2 : Option Addr) (c2 : Nat) (ds2 : List Value), Blk w' gl 44 #[.int .i64 (P.st : Nat), .int .i64 (P.S : Nat), .slice A2 P.L c2, .bool sz] → LO w' B 47 P.lc P.rs (.slice A2 P.L c2) P.L ds2 → Keep w w' (fun q => q = gl ∨ B ≤ q) → Q .normal ⟨List.toArray (.int .i64 (P.S : Nat) :: .int .i64 (P.K : Nat) :: v :: .bool sz :: .int .i64 (P.size : Nat) :: u5 :: u6 :: u7 :: u8 :: u9 :: u10 :: .pointer (some ⟨gl, 0, none⟩) :: v12 :: v13 :: v14 :: v15 :: v16 :: u17 :: u18 :: u19 :: u20 :: u21 :: u22 :: u23 :: u24 :: u25 :: u26 :: u27 :: u28 :: u29 :: u30 :: u31 :: u32 :: u33 :: u34 :: u35 :: u36 :: u37 :: u38 :: u39 :: u40 :: u41 :: u42 :: u43 :: u44 :: u45 :: u46 :: u47 :: u48 :: u49 :: u50 :: u51 :: u52 :: u53 :: u54 :: u55 :: u56 :: u57 :: u58 :: u59 :: u60 :: u61 :: u62 :: u63 :: u64 :: u65 :: u66 :: v67 :: v68 :: v69 :: v70 :: v71 :: v72 :: v73 :: v74 :: v75 :: v76 :: v77 :: v78 :: v79 :: v80 :: v81 :: v82 :: v83 :: v84 :: v85 :: v86 :: v87 :: v88 :: v89 :: v90 :: v91 :: v92 :: v93 :: v94 :: v95 :: v96 :: v97 :: v98 :: v99 :: v100 :: v101 :: v102 :: v103 :: v104 :: v105 :: v106 :: v107 :: v108 :: v109 :: v110 :: v111 :: v112 :: v113 :: v114 :: v115 :: v116 :: u117 :: u118 :: u119 :: u120 :: u121 :: u122 :: u123 :: u124 :: u125 :: u126 :: u127 :: u128 :: u129 :: u130 :: u131 :: u132 :: u133 :: u134 :: u135 :: u136 :: u137 :: u138 :: u139 :: u140 :: u141 :: u142 :: u143 :: u144 :: u145 :: u146 :: u147 :: u148 :: u149 :: u150 :: u151 :: u152 :: u153 :: u154 :: u155 :: u156 :: u157 :: u158 :: u159 :: u160 :: u161 :: u162 :: u163 :: u164 :: u165 :: u166 :: u167 :: u168 :: u169 :: u170 :: u171 :: u172 :: u173 :: u174 :: u175 :: u176 :: u177 :: u178 :: u179 :: u180 :: u181 :: u182 :: u183 :: u184 :: u185 :: u186 :: u187 :: u188 :: u189 :: u190 :: u191 :: u192 :: u193 :: u194 :: u195 :: u196 :: u197 :: u198 :: u199 :: u200 :: u201 :: u202 :: u203 :: u204 :: u205 :: u206 :: u207 :: u208 :: u209 :: u210 :: u211 :: u212 :: u213 :: u214 :: u215 :: u216 :: u217 :: u218 :: u219 :: u220 :: u221 :: u222 :: u223 :: u224 :: u225 :: u226 :: u227 :: u228 :: u229 :: u230 :: u231 :: u232 :: u233 :: u234 :: u235 :: u236 :: u237 :: u238 :: u239 :: u240 :: u241 :: u242 :: []), []⟩ w') :
    Part Tryd.prog Tryd.f6 6 Q ⟨List.toArray (.int .i64 (P.S : Nat) :: .int .i64 (P.K : Nat) :: v :: .bool sz :: .int .i64 (P.size : Nat) :: u5 :: u6 :: u7 :: u8 :: u9 :: u10 :: .pointer (some ⟨gl, 0, none⟩) :: u12 :: u13 :: u14 :: u15 :: u16 :: u17 :: u18 :: u19 :: u20 :: u21 :: u22 :: u23 :: u24 :: u25 :: u26 :: u27 :: u28 :: u29 :: u30 :: u31 :: u32 :: u33 :: u34 :: u35 :: u36 :: u37 :: u38 :: u39 :: u40 :: u41 :: u42 :: u43 :: u44 :: u45 :: u46 :: u47 :: u48 :: u49 :: u50 :: u51 :: u52 :: u53 :: u54 :: u55 :: u56 :: u57 :: u58 :: u59 :: u60 :: u61 :: u62 :: u63 :: u64 :: u65 :: u66 :: u67 :: u68 :: u69 :: u70 :: u71 :: u72 :: u73 :: u74 :: u75 :: u76 :: u77 :: u78 :: u79 :: u80 :: u81 :: u82 :: u83 :: u84 :: u85 :: u86 :: u87 :: u88 :: u89 :: u90 :: u91 :: u92 :: u93 :: u94 :: u95 :: u96 :: u97 :: u98 :: u99 :: u100 :: u101 :: u102 :: u103 :: u104 :: u105 :: u106 :: u107 :: u108 :: u109 :: u110 :: u111 :: u112 :: u113 :: u114 :: u115 :: u116 :: u117 :: u118 :: u119 :: u120 :: u121 :: u122 :: u123 :: u124 :: u125 :: u126 :: u127 :: u128 :: u129 :: u130 :: u131 :: u132 :: u133 :: u134 :: u135 :: u136 :: u137 :: u138 :: u139 :: u140 :: u141 :: u142 :: u143 :: u144 :: u145 :: u146 :: u147 :: u148 :: u149 :: u150 :: u151 :: u152 :: u153 :: u154 :: u155 :: u156 :: u157 :: u158 :: u159 :: u160 :: u161 :: u162 :: u163 :: u164 :: u165 :: u166 :: u167 :: u168 :: u169 :: u170 :: u171 :: u172 :: u173 :: u174 :: u175 :: u176 :: u177 :: u178 :: u179 :: u180 :: u181 :: u182 :: u183 :: u184 :: u185 :: u186 :: u187 :: u188 :: u189 :: u190 :: u191 :: u192 :: u193 :: u194 :: u195 :: u196 :: u197 :: u198 :: u199 :: u200 :: u201 :: u202 :: u203 :: u204 :: u205 :: u206 :: u207 :: u208 :: u209 :: u210 :: u211 :: u212 :: u213 :: u214 :: u215 :: u216 :: u217 :: u218 :: u219 :: u220 :: u221 :: u222 :: u223 :: u224 :: u225 :: u226 :: u227 :: u228 :: u229 :: u230 :: u231 :: u232 :: u233 :: u234 :: u235 :: u236 :: u237 :: u238 :: u239 :: u240 :: u241 :: u242 :: []), []⟩ w := by
  have HQ := hide hQ
  have HP := hide hP
  have HSZ := hide hsz
  have HRS := hide hrs
  have HZ := hide hz
  have HV := hide hv
  have HPB := hide hp
  have HB := hide hb
  have hvs := hv.shape
  obtain ⟨Av, cv, rfl⟩ := hvs
  have hS1 := hP.s1
  have hS4 := hP.s4
  have hK4 := hP.k4
  clear hQ hP hsz hrs hz hv hp hb
  refine part_open (fun c0 hc K hK => ?_)
  conv at hc => rhs; whnf
  subst hc
  dsimp only [xOf, yOf] at hK ⊢
  go_wp2_with fail
  go_loopw [68] (fun s68 wr => ∃ (s : Nat) (A' : Option Addr) (c' : Nat) (ds : List Value), s ≤ P.S ∧ s68 = .int .i64 (s : Int) ∧ Blk wr gl 44 #[.int .i64 (P.st : Nat), .int .i64 (P.S : Nat), .slice A' (s * P.K) c', .bool sz] ∧ LO wr B 47 P.lc P.rs (.slice A' (s * P.K) c') (s * P.K) ds ∧ Keep w wr (fun q => q = gl ∨ B ≤ q)) (fun s68 _ => P.S - (intOf s68).toNat)
  case atStart => exact ⟨0, none, 0, [], by omega, rfl, by simpa using HB.out, by simpa using LO.nil_ _ _ _ _ _, Keep.refl _ _⟩
  case round =>
    obtain ⟨s, A', c', ds, hs, rfl, hb, hlo, hk⟩ := hrel
    have HB1 := hide hb
    have HLO1 := hide hlo
    have HK1 := hide hk
    clear hb hlo hk
    by_cases hlt : s < P.S
    · have kl : (s : Int) < (P.S : Int) := by omega
      go_wp2_with fail
      go_loopw [72] (fun s72 wq => ∃ (k : Nat) (A' : Option Addr) (c' : Nat) (ds : List Value), k ≤ P.K ∧ s72 = .int .i64 (k : Int) ∧ Blk wq gl 44 #[.int .i64 (P.st : Nat), .int .i64 (P.S : Nat), .slice A' (s * P.K + k) c', .bool sz] ∧ LO wq B 47 P.lc P.rs (.slice A' (s * P.K + k) c') (s * P.K + k) ds ∧ Keep w wq (fun q => q = gl ∨ B ≤ q)) (fun s72 _ => P.K - (intOf s72).toNat)
      case atStart => exact ⟨0, A', c', ds, by omega, rfl, HB1.out, HLO1.out, HK1.out⟩
      case round =>
        obtain ⟨k, A', c', ds, hkK, rfl, hb, hlo, hk⟩ := hrel
        have HB2 := hide hb
        have HLO2 := hide hlo
        have HK2 := hide hk
        have HV2 := hide (HV.out.keep hk (fun q hq hp e => by have := HPB.out q hp; rcases e with e | e <;> omega))
        have hBr := Nat.le_trans hBw hk.size
        clear hb hlo hk
        by_cases hlt2 : k < P.K
        · have kl2 : (k : Int) < (P.K : Int) := by omega
          have hll := lay_lt hlt hlt2
          obtain ⟨hd1, hd2⟩ := divK HP.out (s := s) hlt2
          go_upto_region 12 with fail
          refine part_use (fl_p12 wr _ _ _ _ _ _ _ _ _ _ _ _ _ _ _ _ _ _ _ _ _ _ _ _ _ _ _ _ _ _ _ _ _ _ _ _ _ _ _ _ _ _ _ _ _ _ _ _ _ _ _ _ _ _ _ _ _ _ _ _ _ _ _ _ _ _ _ _ _ _ _ _ _ _ _ _ _ _ _ _ _ _ _ _ _ _ _ _ _ _ _ _ _ _ _ _ _ _ _ _ _ _ _ _ _ _ _ _ _ _ _ _ _ _ _ _ _ _ _ _ _ _ _ _ _ _ _ _ _ _ _ _ _ _ _ _ _ _ _ _ _ _ _ _ _ _ _ _ _ _ _ _ _ _ _ _ _ _ _ _ _ _ _ _ _ _ _ _ _ _ _ _ _ _ _ _ _ _ _ _ _ _ _ _ _ _ _ _ _ _ _ _ _ _ _ _ _ _ _ _ _ _ _ _ _ _ _ _ _ _ _ _ _ _ _ _ _ _ _ _ _ _ _ _ _ _ _ _ _ _ _ HP.out HSZ.out HRS.out HZ.out HV2.out HPB.out HB2.out HLO2.out hgB hBr hll hd1.symm hd2.symm ?_) rfl rfl (by assumption)
          intro w6
          intros
          rename_i A2 c2 ds2 hb6 hlo6 hk6
          have HB6 := hide hb6
          have HLO6 := hide hlo6
          have HK6 := hide (HK2.out.trans hk6 (fun _ _ e => e))
          clear hb6 hlo6 hk6
          refine (show ∀ a w, _ → _ by assumption) _ _ ?_
          go_wp2_with fail
          go_roundw
          case rel => exact ⟨k + 1, A2, c2, ds2, by omega, by go_num, HB6.out, HLO6.out, HK6.out⟩
          case measure => simp [intOf]; omega
        · obtain rfl : k = P.K := by omega
          have e : s * P.K + P.K = (s + 1) * P.K := (Nat.succ_mul s P.K).symm
          have HB3 := hide (show Blk wr gl 44 #[.int .i64 (P.st : Nat), .int .i64 (P.S : Nat), .slice A' ((s + 1) * P.K) c', .bool sz] by rw [← e]; exact HB2.out)
          have HLO3 := hide (show LO wr B 47 P.lc P.rs (.slice A' ((s + 1) * P.K) c') ((s + 1) * P.K) ds by rw [← e]; exact HLO2.out)
          clear e
          go_wp2_with fail
          go_roundw
          case rel => exact ⟨s + 1, A', c', ds, by omega, by go_num, HB3.out, HLO3.out, HK2.out⟩
          case measure => simp [intOf]; omega
    · obtain rfl : s = P.S := by omega
      go_wp2_with fail
      exact HQ.out _ _ _ _ _ _ _ _ _ _ _ _ _ _ _ _ _ _ _ _ _ _ _ _ _ _ _ _ _ _ _ _ _ _ _ _ _ _ _ _ _ _ _ _ _ _ _ _ _ _ _ _ _ _ _ _ A' c' _ HB1.out HLO1.out HK1.out
end Go.Proofs.YtdlnmkpojiofoaaDoor
