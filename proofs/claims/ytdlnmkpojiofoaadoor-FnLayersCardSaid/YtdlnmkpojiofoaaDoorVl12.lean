/-
  VLA.MarshalTo: the rates. Conditions: those that stand in each theorem.
-/
import Derived.Test.YtdlnmkpojiofoaaDoorVl11
namespace Go.Proofs.YtdlnmkpojiofoaaDoor
open Go.RowKit
set_option linter.unusedVariables false
set_option linter.unusedSimpArgs false
set_option maxRecDepth 100000

theorem sumN_app (a b : List Nat) : sumN (a ++ b) = sumN a + sumN b := by simp [sumN]
theorem sumN_take (l : List Nat) (j : Nat) : sumN (l.take j) ≤ sumN l := by
  have h := sumN_app (l.take j) (l.drop j)
  rw [List.take_append_drop] at h
  omega

set_option maxHeartbeats 3200000 in
theorem mt_p35 {p : Nat → Prop} {P : Pv} {b o c g2 g6 gb m0 bn : Nat} {T : TypeId} {ds : List Value} {D0 : List Int} {Q : Exit → Act → World → Prop} (w : World) (u0 u3 u4 u5 u7 u9 u10 u11 u12 u13 u14 u15 u16 u17 u18 u19 u20 u21 u22 u23 u24 u25 u26 u27 u28 u29 u30 u31 u32 u33 u34 u35 u36 u37 u38 u39 u40 u41 u42 u43 u44 u45 u46 u47 u48 u49 u50 u51 u52 u53 u54 u55 u56 u57 u58 u59 u60 u61 u62 u63 u64 u65 u66 u67 u68 u69 u70 u71 u72 u73 u74 u75 u76 u77 u78 u79 u80 u81 u82 u83 u84 u85 u86 u87 u88 u89 u90 u91 u92 u93 u94 u95 u96 u97 u98 u99 u100 u101 u102 u103 u104 u105 u106 u107 u108 u109 u110 u111 u112 u113 u114 u115 u116 u117 u118 u119 u120 u121 u122 u123 u124 u125 u126 u127 u128 u129 u130 u131 u132 u133 u134 u135 u136 u137 u138 u139 u140 u141 u142 u143 u144 u145 u146 u147 u148 u149 u150 u151 u152 u153 u154 u155 u156 u157 u158 u159 u160 u161 u162 u163 u164 u165 u166 u167 u168 u169 u170 u171 u172 u173 u174 u175 u176 u177 u178 u179 u180 u181 u182 u183 u184 u185 u186 u187 u188 u189 u190 u191 u192 u193 u194 u195 u196 u197 u198 u199 u200 u201 u202 u203 u204 u205 u206 u207 u208 u209 u210 u211 u212 u213 u214 u215 u216 u217 u218 : Value)
    (M : MS p P b o c ds T g2 g6 gb w) (hb : Buf w gb D0 (Z8 m0)) (hbn : bn = D0.length + m0) (hm : P.L * sumN P.rs ≤ m0) (hb4 : bn ≤ 1000) {z8 : Int} (h8 : z8 = (D0.length : Int))
    (hQ : ∀ (w' : World) (u0 u3 u4 u5 u7 u9 u10 u11 u12 u13 u14 u15 u16 u17 u18 u19 u20 u21 u22 u23 u24 u25 u26 u27 u28 u29 u30 u31 u32 u33 u34 u35 u36 u37 u38 u39 u40 u41 u42 u43 u44 u45 u46 u47 u48 u49 u50 u51 u52 u53 u54 u55 u56 u57 u58 u59 u60 u61 u62 u63 u64 u65 u66 u67 u68 u69 u70 u71 u72 u73 u74 u75 u76 u77 u78 u79 u80 u81 u82 u83 u84 u85 u86 u87 u88 u89 u90 u91 u92 u93 u94 u95 u96 u97 u98 u99 u100 u101 u102 u103 u104 u105 u106 u107 u108 u109 u110 u111 u112 u113 u114 u115 u116 u117 u118 u119 u120 u121 u122 u123 u124 u125 u126 u127 u128 u129 u130 u131 u132 u133 u134 u135 u136 u137 u138 u139 u140 u141 u142 u143 u144 u145 u146 u147 u148 u149 u150 u151 u152 u153 u154 u155 u156 u157 u158 u159 u160 u161 u162 u163 u164 u165 u166 u167 u168 u169 u170 u171 u172 u173 u174 u175 u176 u177 u178 u179 u180 u181 u182 u183 u184 u185 u186 u187 u188 u189 u190 u191 u192 u193 u194 u195 u196 u197 u198 u199 u200 u201 u202 u203 u204 u205 u206 u207 u208 u209 u210 u211 u212 u213 u214 u215 u216 u217 u218 : Value), Buf w' gb (D0 ++ rbs P.L P.rs) (Z8 (m0 - P.L * sumN P.rs)) → Keep w w' (· = gb) → Q .normal ⟨List.toArray (u0 :: .slice (some ⟨gb, 0, none⟩) bn bn :: .pointer (some ⟨g2, 0, none⟩) :: u3 :: u4 :: u5 :: .pointer (some ⟨g6, 0, none⟩) :: u7 :: .int .i64 ((D0.length + P.L * sumN P.rs : Nat) : Int) :: u9 :: u10 :: u11 :: u12 :: u13 :: u14 :: u15 :: u16 :: u17 :: u18 :: u19 :: u20 :: u21 :: u22 :: u23 :: u24 :: u25 :: u26 :: u27 :: u28 :: u29 :: u30 :: u31 :: u32 :: u33 :: u34 :: u35 :: u36 :: u37 :: u38 :: u39 :: u40 :: u41 :: u42 :: u43 :: u44 :: u45 :: u46 :: u47 :: u48 :: u49 :: u50 :: u51 :: u52 :: u53 :: u54 :: u55 :: u56 :: u57 :: u58 :: u59 :: u60 :: u61 :: u62 :: u63 :: u64 :: u65 :: u66 :: u67 :: u68 :: u69 :: u70 :: u71 :: u72 :: u73 :: u74 :: u75 :: u76 :: u77 :: u78 :: u79 :: u80 :: u81 :: u82 :: u83 :: u84 :: u85 :: u86 :: u87 :: u88 :: u89 :: u90 :: u91 :: u92 :: u93 :: u94 :: u95 :: u96 :: u97 :: u98 :: u99 :: u100 :: u101 :: u102 :: u103 :: u104 :: u105 :: u106 :: u107 :: u108 :: u109 :: u110 :: u111 :: u112 :: u113 :: u114 :: u115 :: u116 :: u117 :: u118 :: u119 :: u120 :: u121 :: u122 :: u123 :: u124 :: u125 :: u126 :: u127 :: u128 :: u129 :: u130 :: u131 :: u132 :: u133 :: u134 :: u135 :: u136 :: u137 :: u138 :: u139 :: u140 :: u141 :: u142 :: u143 :: u144 :: u145 :: u146 :: u147 :: u148 :: u149 :: u150 :: u151 :: u152 :: u153 :: u154 :: u155 :: u156 :: u157 :: u158 :: u159 :: u160 :: u161 :: u162 :: u163 :: u164 :: u165 :: u166 :: u167 :: u168 :: u169 :: u170 :: u171 :: u172 :: u173 :: u174 :: u175 :: u176 :: u177 :: u178 :: u179 :: u180 :: u181 :: u182 :: u183 :: u184 :: u185 :: u186 :: u187 :: u188 :: u189 :: u190 :: u191 :: u192 :: u193 :: u194 :: u195 :: u196 :: u197 :: u198 :: u199 :: u200 :: u201 :: u202 :: u203 :: u204 :: u205 :: u206 :: u207 :: u208 :: u209 :: u210 :: u211 :: u212 :: u213 :: u214 :: u215 :: u216 :: u217 :: u218 :: []), []⟩ w') :
    Part Tryd.prog Tryd.f65 35 Q ⟨List.toArray (u0 :: .slice (some ⟨gb, 0, none⟩) bn bn :: .pointer (some ⟨g2, 0, none⟩) :: u3 :: u4 :: u5 :: .pointer (some ⟨g6, 0, none⟩) :: u7 :: .int .i64 z8 :: u9 :: u10 :: u11 :: u12 :: u13 :: u14 :: u15 :: u16 :: u17 :: u18 :: u19 :: u20 :: u21 :: u22 :: u23 :: u24 :: u25 :: u26 :: u27 :: u28 :: u29 :: u30 :: u31 :: u32 :: u33 :: u34 :: u35 :: u36 :: u37 :: u38 :: u39 :: u40 :: u41 :: u42 :: u43 :: u44 :: u45 :: u46 :: u47 :: u48 :: u49 :: u50 :: u51 :: u52 :: u53 :: u54 :: u55 :: u56 :: u57 :: u58 :: u59 :: u60 :: u61 :: u62 :: u63 :: u64 :: u65 :: u66 :: u67 :: u68 :: u69 :: u70 :: u71 :: u72 :: u73 :: u74 :: u75 :: u76 :: u77 :: u78 :: u79 :: u80 :: u81 :: u82 :: u83 :: u84 :: u85 :: u86 :: u87 :: u88 :: u89 :: u90 :: u91 :: u92 :: u93 :: u94 :: u95 :: u96 :: u97 :: u98 :: u99 :: u100 :: u101 :: u102 :: u103 :: u104 :: u105 :: u106 :: u107 :: u108 :: u109 :: u110 :: u111 :: u112 :: u113 :: u114 :: u115 :: u116 :: u117 :: u118 :: u119 :: u120 :: u121 :: u122 :: u123 :: u124 :: u125 :: u126 :: u127 :: u128 :: u129 :: u130 :: u131 :: u132 :: u133 :: u134 :: u135 :: u136 :: u137 :: u138 :: u139 :: u140 :: u141 :: u142 :: u143 :: u144 :: u145 :: u146 :: u147 :: u148 :: u149 :: u150 :: u151 :: u152 :: u153 :: u154 :: u155 :: u156 :: u157 :: u158 :: u159 :: u160 :: u161 :: u162 :: u163 :: u164 :: u165 :: u166 :: u167 :: u168 :: u169 :: u170 :: u171 :: u172 :: u173 :: u174 :: u175 :: u176 :: u177 :: u178 :: u179 :: u180 :: u181 :: u182 :: u183 :: u184 :: u185 :: u186 :: u187 :: u188 :: u189 :: u190 :: u191 :: u192 :: u193 :: u194 :: u195 :: u196 :: u197 :: u198 :: u199 :: u200 :: u201 :: u202 :: u203 :: u204 :: u205 :: u206 :: u207 :: u208 :: u209 :: u210 :: u211 :: u212 :: u213 :: u214 :: u215 :: u216 :: u217 :: u218 :: []), []⟩ w := by
  subst h8
  have HQ := hide hQ
  have MM := hide M
  have HB := hide hb
  have hL16 := M.ok.L16
  have hS4 := M.ok.s4
  have hK4 := M.ok.k4
  have hS1 := M.ok.s1
  have ht1 := M.ok.t1
  have ht4 := M.ok.t4
  have hlc := M.lc
  have HBN := hide hbn
  have HM := hide hm
  obtain ⟨d0, hd0⟩ : ∃ d0, d0 = D0.length := ⟨_, rfl⟩
  rw [← hd0]
  have HD0 := hide hd0
  have hd0b : d0 ≤ bn := by omega
  clear hQ M hb hbn hd0 hm
  refine part_open (fun c0 hc K hK => ?_)
  conv at hc => rhs; whnf
  subst hc
  dsimp only [xOf, yOf] at hK ⊢
  go_wp2_with fail
  go_loopw [8, 14] (fun s8 s14 wr => ∃ s x : Nat, s ≤ P.S ∧ s14 = .int .i64 (s : Int) ∧ s8 = .int .i64 (x : Int) ∧ x = d0 + s * P.K * sumN P.rs ∧ Buf wr gb (D0 ++ rbs (s * P.K) P.rs) (Z8 (m0 - s * P.K * sumN P.rs)) ∧ Keep w wr (· = gb)) (fun _ s14 _ => P.S - (intOf s14).toNat)
  case atStart => exact ⟨0, d0, by omega, rfl, rfl, by omega, by simpa [rbs] using HB.out, Keep.refl _ _⟩
  case round =>
    obtain ⟨s, x, hs, rfl, rfl, hx, hb, hk⟩ := hrel
    have HB1 := hide hb
    have HK1 := hide hk
    have HX := hide hx
    have MM1 := hide (MM.out.keep hk)
    have x1 := MM1.out.k2.cell 1 (v := .int .i64 (P.S : Nat)) rfl
    have hl2 := MM1.out.k2.lt
    clear hb hk hx
    by_cases hlt : s < P.S
    · have kl : (s : Int) < (P.S : Int) := by omega
      go_wp2_with fail
      go_loopw [8, 148] (fun s8 s148 wq => ∃ k x : Nat, k ≤ 4 ∧ s148 = .int .i64 (k : Int) ∧ s8 = .int .i64 (x : Int) ∧ x = d0 + nl P.K s k * sumN P.rs ∧ Buf wq gb (D0 ++ rbs (nl P.K s k) P.rs) (Z8 (m0 - nl P.K s k * sumN P.rs)) ∧ Keep w wq (· = gb)) (fun _ s148 _ => 4 - (intOf s148).toNat)
      case atStart =>
        have e : nl P.K s 0 = s * P.K := by unfold nl; omega
        exact ⟨0, x, by omega, rfl, rfl, by rw [e]; exact HX.out, by rw [e]; exact HB1.out, HK1.out⟩
      case round =>
        obtain ⟨k, x, hk4, rfl, rfl, hx, hb, hk⟩ := hrel
        have HB2 := hide hb
        have HK2 := hide hk
        have HX2 := hide hx
        have MM2 := hide (MM.out.keep hk)
        have hl6 := MM2.out.k6.lt
        have hl22 := MM2.out.k2.lt
        have y2 := MM2.out.k2.cell 2 (v := .slice (some ⟨b, o, none⟩) P.L c) rfl
        clear hb hk x1 hx
        by_cases hlt2 : k < 4
        · have kl2 : (k : Int) < 4 := by omega
          have hix := MM2.out.k6.cell (4 + (s * 4 + k)) (ctx_ix (mbL_len _ _) (ixL_len _ _) (ix_at MM.out.ok hlt hlt2))
          rw [show 4 + (s * 4 + k) = 4 + s * 4 + k by omega] at hix
          have hnb := nl_b MM.out.ok hlt (k := k)
          by_cases hkK : k < P.K
          · rw [if_pos hkK] at hix
            have hll := lay_lt hlt hkK
            have hnl : nl P.K s k = s * P.K + k := by unfold nl; omega
            have hnl1 : nl P.K s (k + 1) = s * P.K + k + 1 := by unfold nl; omega
            rw [hnl] at HB2 hnb HX2
            generalize s * P.K + k = n at *
            have HN1 := hide hnl1
            have hds : ds[n]? = some (ds[n]'(by rw [MM.out.lr.dl]; exact hll)) := List.getElem?_eq_getElem _
            have c2 := MM2.out.lr.cell n _ hds 2 _ rfl
            obtain ⟨Ad, cd, hd⟩ := (MM2.out.lr.rate n _ hds).shape
            rw [hd] at c2
            have HDS := hide (show ds[n]? = some (.slice Ad P.rs.length cd) by rw [hds, hd])
            have hbb := MM2.out.lr.blt
            have kll : (n : Int) < (P.L : Int) := by omega
            have hnR : n * sumN P.rs + sumN P.rs ≤ P.L * sumN P.rs := by rw [← Nat.succ_mul]; exact Nat.mul_le_mul_right _ hll
            have HNR := hide hnR
            clear hnl hnl1 hds hd hnR
            go_wp2_with fail
            go_loopw [8, 166] (fun s8 s166 wi => ∃ j x : Nat, j ≤ P.rs.length ∧ s166 = .int .i64 (j : Int) ∧ s8 = .int .i64 (x : Int) ∧ x = d0 + n * sumN P.rs + sumN (P.rs.take j) ∧ Buf wi gb (D0 ++ rbs n P.rs ++ rb (P.rs.take j)) (Z8 (m0 - n * sumN P.rs - sumN (P.rs.take j))) ∧ Keep w wi (· = gb)) (fun _ s166 _ => P.rs.length - (intOf s166).toNat)
            case atStart => exact ⟨0, x, by omega, rfl, rfl, by rw [HX2.out]; simp [sumN], by simpa [rb, sumN] using HB2.out, HK2.out⟩
            case round =>
              obtain ⟨j, x, hj, rfl, rfl, hx, hb, hk⟩ := hrel
              have HB3 := hide hb
              have HK3 := hide hk
              have HX3 := hide hx
              clear hb hk hx
              by_cases hlt3 : j < P.rs.length
              · have kl3 : (j : Int) < (P.rs.length : Int) := by omega
                have hrj : P.rs[j]? = some P.rs[j] := List.getElem?_eq_getElem _
                have hrb := MM.out.ok.rs _ (List.getElem_mem hlt3)
                have htk : P.rs.take (j + 1) = P.rs.take j ++ [P.rs[j]] := List.take_succ_eq_append_getElem hlt3
                have hsn := sumN_snoc (P.rs.take j) P.rs[j]
                have hrs := rb_snoc (P.rs.take j) P.rs[j]
                have htot : sumN (P.rs.take j) + lebN P.rs[j] ≤ sumN P.rs := by
                  rw [← hsn, ← htk]
                  exact sumN_take _ _
                rw [← htk] at hsn hrs
                obtain ⟨b3, o3, c3, hv3, _, _, _, hbl4, hcl⟩ := ((MM.out.keep HK3.out).lr.rate n _ HDS.out).lit (by omega)
                injection hv3 with e1 _ e3
                subst e1 e3
                have cj := hcl j _ (I64_at hrj)
                generalize P.rs[j] = r at *
                have hNb := (lebN_b r)
                have hxl : x = (D0 ++ rbs n P.rs ++ rb (P.rs.take j)).length := by
                  rw [HX3.out, List.length_append, List.length_append, rbs_len, rb_len, ← HD0.out]
                have h1 := HNR.out
                have h2 := HM.out
                have h3 := HX3.out
                have h4 := HBN.out
                have h5 := HD0.out
                have hxb : x < bn := by omega
                have hrem : bn - x = m0 - n * sumN P.rs - sumN (P.rs.take j) := by omega
                have HREM := hide hrem
                have hW := hide (wleb_walk (c := bn - x) wr HB3.out hxl hrb (by omega) (by omega))
                rw [← hrem] at hW
                have qz : IntKind.u64.wrap (r : Int) = (r : Int) := by rw [IntKind.wrap_u64]; omega
                have kx : (x : Int) ≤ (bn : Int) := by omega
                have kx0 : (0 : Int) ≤ (x : Int) := by omega
                have kx1 : ¬ bn = x := by omega
                have kx2 : x ≤ bn := by omega
                have HSN := hide hsn
                have HRS := hide hrs
                have HTOT := hide htot
                clear h1 h2 h3 h4 h5 hrem hxl hsn hrs htk hcl hrj htot
                go_wp2_with fail
                refine (hW.out).mono ?_
                rintro e w4 ⟨rfl, hb4', hk4⟩
                rw [List.append_assoc, ← HRS.out] at hb4'
                have HB4 := hide hb4'
                have HK4 := hide (HK3.out.trans hk4 (fun _ _ e => e))
                clear hb4' hk4 hW cj
                go_wp2_with fail
                go_roundw
                case rel =>
                  refine ⟨j + 1, x + lebN r, by omega, by go_num, by go_num, by rw [HSN.out, HX3.out]; omega, ?_, HK4.out⟩
                  have h := HB4.out
                  rw [HREM.out] at h
                  rw [HSN.out, ← Nat.sub_sub]
                  exact h
                case measure => simp [intOf]; omega
              · obtain rfl : j = P.rs.length := by omega
                rw [List.take_length] at HB3 HX3
                go_wp2_with fail
                go_roundw
                case rel => exact ⟨k + 1, x, by omega, by go_num, rfl, by rw [HN1.out, Nat.succ_mul, HX3.out]; omega, by rw [HN1.out, rbs_succ, ← List.append_assoc, Nat.succ_mul, ← Nat.sub_sub]; exact HB3.out, HK3.out⟩
                case measure => simp [intOf]; omega
          · rw [if_neg hkK] at hix
            have hnl1 : nl P.K s (k + 1) = nl P.K s k := by unfold nl; omega
            have HN1 := hide hnl1
            clear hnl1
            go_wp2_with fail
            go_roundw
            case rel => exact ⟨k + 1, x, by omega, by go_num, rfl, by rw [HN1.out]; exact HX2.out, by rw [HN1.out]; exact HB2.out, HK2.out⟩
            case measure => simp [intOf]; omega
        · obtain rfl : k = 4 := by omega
          have hnl1 : nl P.K s 4 = (s + 1) * P.K := by unfold nl; rw [Nat.succ_mul]; omega
          rw [hnl1] at HB2 HX2
          clear hnl1
          go_wp2_with fail
          go_roundw
          case rel => exact ⟨s + 1, x, by omega, by go_num, rfl, HX2.out, HB2.out, HK2.out⟩
          case measure => simp [intOf]; omega
    · obtain rfl : s = P.S := by omega
      have hxe := HX.out
      rw [HD0.out] at hxe
      subst hxe
      go_wp2_with fail
      exact HQ.out wr _ _ _ _ _ _ _ _ _ _ _ _ _ _ _ _ _ _ _ _ _ _ _ _ _ _ _ _ _ _ _ _ _ _ _ _ _ _ _ _ _ _ _ _ _ _ _ _ _ _ _ _ _ _ _ _ _ _ _ _ _ _ _ _ _ _ _ _ _ _ _ _ _ _ _ _ _ _ _ _ _ _ _ _ _ _ _ _ _ _ _ _ _ _ _ _ _ _ _ _ _ _ _ _ _ _ _ _ _ _ _ _ _ _ _ _ _ _ _ _ _ _ _ _ _ _ _ _ _ _ _ _ _ _ _ _ _ _ _ _ _ _ _ _ _ _ _ _ _ _ _ _ _ _ _ _ _ _ _ _ _ _ _ _ _ _ _ _ _ _ _ _ _ _ _ _ _ _ _ _ _ _ _ _ _ _ _ _ _ _ _ _ _ _ _ _ _ _ _ _ _ _ _ _ _ _ _ _ _ _ _ _ _ _ _ HB1.out HK1.out
end Go.Proofs.YtdlnmkpojiofoaaDoor
