/-
  VLA.MarshalTo: the loops over the numbers of rates. Conditions: those that stand in each theorem.
-/
import Derived.Test.YtdlnmkpojiofoaaDoorVl10
namespace Go.Proofs.YtdlnmkpojiofoaaDoor
open Go.RowKit
set_option linter.unusedVariables false
set_option linter.unusedSimpArgs false
set_option maxRecDepth 100000

/-- Where the next number of rates is put, behind n of them. -/
def OT (n x y : Nat) : Prop := (n = 0 ∧ x = 1 ∧ y = 0) ∨ (0 < n ∧ x = 1 + (n - 1) / 4 ∧ y = (n - 1) % 4 + 1)

set_option maxHeartbeats 3200000 in
theorem mt_p20 {p : Nat → Prop} {P : Pv} {b o c g2 g6 gb m bn bc : Nat} {T : TypeId} {ds : List Value} {Q : Exit → Act → World → Prop} (w : World) (u0 u3 u4 u5 u7 u9 u11 u12 u13 u14 u15 u16 u17 u18 u19 u20 u21 u22 u23 u24 u25 u26 u27 u28 u29 u30 u31 u32 u33 u34 u35 u36 u37 u38 u39 u40 u41 u42 u43 u44 u45 u46 u47 u48 u49 u50 u51 u52 u53 u54 u55 u56 u57 u58 u59 u60 u61 u62 u63 u64 u65 u66 u67 u68 u69 u70 u71 u72 u73 u74 u75 u76 u77 u78 u79 u80 u81 u82 u83 u84 u85 u86 u87 u88 u89 u90 u91 u92 u93 u94 u95 u96 u97 u98 u99 u100 u101 u102 u103 u104 u105 u106 u107 u108 u109 u110 u111 u112 u113 u114 u115 u116 u117 u118 u119 u120 u121 u122 u123 u124 u125 u126 u127 u128 u129 u130 u131 u132 u133 u134 u135 u136 u137 u138 u139 u140 u141 u142 u143 u144 u145 u146 u147 u148 u149 u150 u151 u152 u153 u154 u155 u156 u157 u158 u159 u160 u161 u162 u163 u164 u165 u166 u167 u168 u169 u170 u171 u172 u173 u174 u175 u176 u177 u178 u179 u180 u181 u182 u183 u184 u185 u186 u187 u188 u189 u190 u191 u192 u193 u194 u195 u196 u197 u198 u199 u200 u201 u202 u203 u204 u205 u206 u207 u208 u209 u210 u211 u212 u213 u214 u215 u216 u217 u218 : Value)
    (M : MS p P b o c ds T g2 g6 gb w) (hb : Buf w gb (P.b0 :: tbL (P.rs.length - 1) 0 P.tl) (Z8 m)) (hbn : bn = 1 + P.tl + m)
    (hQ : ∀ (w' : World) (u0 u3 u4 u5 u7 u9 u10 u11 u12 u13 u14 u15 u16 u17 u18 u19 u20 u21 u22 u23 u24 u25 u26 u27 u28 u29 u30 u31 u32 u33 u34 u35 u36 u37 u38 u39 u40 u41 u42 u43 u44 u45 u46 u47 u48 u49 u50 u51 u52 u53 u54 u55 u56 u57 u58 u59 u60 u61 u62 u63 u64 u65 u66 u67 u68 u69 u70 u71 u72 u73 u74 u75 u76 u77 u78 u79 u80 u81 u82 u83 u84 u85 u86 u87 u88 u89 u90 u91 u92 u93 u94 u95 u96 u97 u98 u99 u100 u101 u102 u103 u104 u105 u106 u107 u108 u109 u110 u111 u112 u113 u114 u115 u116 u117 u118 u119 u120 u121 u122 u123 u124 u125 u126 u127 u128 u129 u130 u131 u132 u133 u134 u135 u136 u137 u138 u139 u140 u141 u142 u143 u144 u145 u146 u147 u148 u149 u150 u151 u152 u153 u154 u155 u156 u157 u158 u159 u160 u161 u162 u163 u164 u165 u166 u167 u168 u169 u170 u171 u172 u173 u174 u175 u176 u177 u178 u179 u180 u181 u182 u183 u184 u185 u186 u187 u188 u189 u190 u191 u192 u193 u194 u195 u196 u197 u198 u199 u200 u201 u202 u203 u204 u205 u206 u207 u208 u209 u210 u211 u212 u213 u214 u215 u216 u217 u218 : Value), Buf w' gb (P.b0 :: tbL (P.rs.length - 1) P.L P.tl) (Z8 m) → Keep w w' (· = gb) → Q .normal ⟨List.toArray (u0 :: .slice (some ⟨gb, 0, none⟩) bn bc :: .pointer (some ⟨g2, 0, none⟩) :: u3 :: u4 :: u5 :: .pointer (some ⟨g6, 0, none⟩) :: u7 :: .int .i64 (P.tl : Int) :: u9 :: u10 :: u11 :: u12 :: u13 :: u14 :: u15 :: u16 :: u17 :: u18 :: u19 :: u20 :: u21 :: u22 :: u23 :: u24 :: u25 :: u26 :: u27 :: u28 :: u29 :: u30 :: u31 :: u32 :: u33 :: u34 :: u35 :: u36 :: u37 :: u38 :: u39 :: u40 :: u41 :: u42 :: u43 :: u44 :: u45 :: u46 :: u47 :: u48 :: u49 :: u50 :: u51 :: u52 :: u53 :: u54 :: u55 :: u56 :: u57 :: u58 :: u59 :: u60 :: u61 :: u62 :: u63 :: u64 :: u65 :: u66 :: u67 :: u68 :: u69 :: u70 :: u71 :: u72 :: u73 :: u74 :: u75 :: u76 :: u77 :: u78 :: u79 :: u80 :: u81 :: u82 :: u83 :: u84 :: u85 :: u86 :: u87 :: u88 :: u89 :: u90 :: u91 :: u92 :: u93 :: u94 :: u95 :: u96 :: u97 :: u98 :: u99 :: u100 :: u101 :: u102 :: u103 :: u104 :: u105 :: u106 :: u107 :: u108 :: u109 :: u110 :: u111 :: u112 :: u113 :: u114 :: u115 :: u116 :: u117 :: u118 :: u119 :: u120 :: u121 :: u122 :: u123 :: u124 :: u125 :: u126 :: u127 :: u128 :: u129 :: u130 :: u131 :: u132 :: u133 :: u134 :: u135 :: u136 :: u137 :: u138 :: u139 :: u140 :: u141 :: u142 :: u143 :: u144 :: u145 :: u146 :: u147 :: u148 :: u149 :: u150 :: u151 :: u152 :: u153 :: u154 :: u155 :: u156 :: u157 :: u158 :: u159 :: u160 :: u161 :: u162 :: u163 :: u164 :: u165 :: u166 :: u167 :: u168 :: u169 :: u170 :: u171 :: u172 :: u173 :: u174 :: u175 :: u176 :: u177 :: u178 :: u179 :: u180 :: u181 :: u182 :: u183 :: u184 :: u185 :: u186 :: u187 :: u188 :: u189 :: u190 :: u191 :: u192 :: u193 :: u194 :: u195 :: u196 :: u197 :: u198 :: u199 :: u200 :: u201 :: u202 :: u203 :: u204 :: u205 :: u206 :: u207 :: u208 :: u209 :: u210 :: u211 :: u212 :: u213 :: u214 :: u215 :: u216 :: u217 :: u218 :: []), []⟩ w') :
    Part Tryd.prog Tryd.f65 20 Q ⟨List.toArray (u0 :: .slice (some ⟨gb, 0, none⟩) bn bc :: .pointer (some ⟨g2, 0, none⟩) :: u3 :: u4 :: u5 :: .pointer (some ⟨g6, 0, none⟩) :: u7 :: .int .i64 1 :: u9 :: .int .i64 0 :: u11 :: u12 :: u13 :: u14 :: u15 :: u16 :: u17 :: u18 :: u19 :: u20 :: u21 :: u22 :: u23 :: u24 :: u25 :: u26 :: u27 :: u28 :: u29 :: u30 :: u31 :: u32 :: u33 :: u34 :: u35 :: u36 :: u37 :: u38 :: u39 :: u40 :: u41 :: u42 :: u43 :: u44 :: u45 :: u46 :: u47 :: u48 :: u49 :: u50 :: u51 :: u52 :: u53 :: u54 :: u55 :: u56 :: u57 :: u58 :: u59 :: u60 :: u61 :: u62 :: u63 :: u64 :: u65 :: u66 :: u67 :: u68 :: u69 :: u70 :: u71 :: u72 :: u73 :: u74 :: u75 :: u76 :: u77 :: u78 :: u79 :: u80 :: u81 :: u82 :: u83 :: u84 :: u85 :: u86 :: u87 :: u88 :: u89 :: u90 :: u91 :: u92 :: u93 :: u94 :: u95 :: u96 :: u97 :: u98 :: u99 :: u100 :: u101 :: u102 :: u103 :: u104 :: u105 :: u106 :: u107 :: u108 :: u109 :: u110 :: u111 :: u112 :: u113 :: u114 :: u115 :: u116 :: u117 :: u118 :: u119 :: u120 :: u121 :: u122 :: u123 :: u124 :: u125 :: u126 :: u127 :: u128 :: u129 :: u130 :: u131 :: u132 :: u133 :: u134 :: u135 :: u136 :: u137 :: u138 :: u139 :: u140 :: u141 :: u142 :: u143 :: u144 :: u145 :: u146 :: u147 :: u148 :: u149 :: u150 :: u151 :: u152 :: u153 :: u154 :: u155 :: u156 :: u157 :: u158 :: u159 :: u160 :: u161 :: u162 :: u163 :: u164 :: u165 :: u166 :: u167 :: u168 :: u169 :: u170 :: u171 :: u172 :: u173 :: u174 :: u175 :: u176 :: u177 :: u178 :: u179 :: u180 :: u181 :: u182 :: u183 :: u184 :: u185 :: u186 :: u187 :: u188 :: u189 :: u190 :: u191 :: u192 :: u193 :: u194 :: u195 :: u196 :: u197 :: u198 :: u199 :: u200 :: u201 :: u202 :: u203 :: u204 :: u205 :: u206 :: u207 :: u208 :: u209 :: u210 :: u211 :: u212 :: u213 :: u214 :: u215 :: u216 :: u217 :: u218 :: []), []⟩ w := by
  have HQ := hide hQ
  have MM := hide M
  have HB := hide hb
  have hL16 := M.ok.L16
  have hS4 := M.ok.s4
  have hK4 := M.ok.k4
  have hS1 := M.ok.s1
  have HBN := hide hbn
  clear hQ M hb hbn
  refine part_open (fun c0 hc K hK => ?_)
  conv at hc => rhs; whnf
  subst hc
  dsimp only [xOf, yOf] at hK ⊢
  go_wp2_with fail
  go_loopw [8, 10, 11] (fun s8 s10 s11 wr => ∃ s x y : Nat, s ≤ P.S ∧ s11 = .int .i64 (s : Int) ∧ s8 = .int .i64 (x : Int) ∧ s10 = .int .i64 (y : Int) ∧ OT (s * P.K) x y ∧ Buf wr gb (P.b0 :: tbL (P.rs.length - 1) (s * P.K) P.tl) (Z8 m) ∧ Keep w wr (· = gb)) (fun _ _ s11 _ => P.S - (intOf s11).toNat)
  case atStart => exact ⟨0, 1, 0, by omega, rfl, rfl, rfl, .inl ⟨by simp, rfl, rfl⟩, by simpa using HB.out, Keep.refl _ _⟩
  case round =>
    obtain ⟨s, x, y, hs, rfl, rfl, rfl, hot, hb, hk⟩ := hrel
    have HB1 := hide hb
    have HK1 := hide hk
    have HOT := hide hot
    have MM1 := hide (MM.out.keep hk)
    have x1 := MM1.out.k2.cell 1 (v := .int .i64 (P.S : Nat)) rfl
    have hl2 := MM1.out.k2.lt
    clear hb hk hot
    by_cases hlt : s < P.S
    · have kl : (s : Int) < (P.S : Int) := by omega
      go_wp2_with fail
      go_loopw [8, 10, 103] (fun s8 s10 s103 wq => ∃ k x y : Nat, k ≤ 4 ∧ s103 = .int .i64 (k : Int) ∧ s8 = .int .i64 (x : Int) ∧ s10 = .int .i64 (y : Int) ∧ OT (nl P.K s k) x y ∧ Buf wq gb (P.b0 :: tbL (P.rs.length - 1) (nl P.K s k) P.tl) (Z8 m) ∧ Keep w wq (· = gb)) (fun _ _ s103 _ => 4 - (intOf s103).toNat)
      case atStart =>
        have e : nl P.K s 0 = s * P.K := by unfold nl; omega
        exact ⟨0, x, y, by omega, rfl, rfl, rfl, by rw [e]; exact HOT.out, by rw [e]; exact HB1.out, HK1.out⟩
      case round =>
        obtain ⟨k, x, y, hk4, rfl, rfl, rfl, hot, hb, hk⟩ := hrel
        have HB2 := hide hb
        have HK2 := hide hk
        have HOT2 := hide hot
        have MM2 := hide (MM.out.keep hk)
        have hl6 := MM2.out.k6.lt
        clear hb hk x1
        by_cases hlt2 : k < 4
        · have kl2 : (k : Int) < 4 := by omega
          have hix := MM2.out.k6.cell (4 + (s * 4 + k)) (ctx_ix (mbL_len _ _) (ixL_len _ _) (ix_at MM.out.ok hlt hlt2))
          rw [show 4 + (s * 4 + k) = 4 + s * 4 + k by omega] at hix
          have hnb := nl_b MM.out.ok hlt (k := k)
          by_cases hkK : k < P.K
          · rw [if_pos hkK] at hix
            have hll := lay_lt hlt hkK
            have hnl : nl P.K s k = s * P.K + k := by unfold nl; omega
            have hnl1 : nl P.K s (k + 1) = s * P.K + k + 1 := by unfold nl; omega
            rw [hnl] at HB2 hnb HOT2 hot
            generalize s * P.K + k = n at *
            have HN1 := hide hnl1
            clear hnl hnl1
            have hfin : ∀ (w' : World), Buf w' gb (P.b0 :: tbL (P.rs.length - 1) (n + 1) P.tl) (Z8 m) → OT (nl P.K s (k + 1)) (1 + n / 4) (n % 4 + 1) ∧ Buf w' gb (P.b0 :: tbL (P.rs.length - 1) (nl P.K s (k + 1)) P.tl) (Z8 m) := fun w' h => by
              rw [HN1.out]
              exact ⟨.inr ⟨by omega, by rw [Nat.add_sub_cancel], by rw [Nat.add_sub_cancel]⟩, h⟩
            have HFIN := hide hfin
            clear hfin
            by_cases hy : y = 4
            · have hxn : x = n / 4 ∧ n % 4 = 0 := by
                rcases hot with ⟨_, _, h⟩ | ⟨h1, h2, h3⟩
                · omega
                · omega
              subst hy
              clear hot
              go_upto_region 31 with fail
              refine part_use (mt_p31 (q := n / 4) (r := n % 4) _ _ _ _ _ _ _ _ _ _ _ _ _ _ _ _ _ _ _ _ _ _ _ _ _ _ _ _ _ _ _ _ _ _ _ _ _ _ _ _ _ _ _ _ _ _ _ _ _ _ _ _ _ _ _ _ _ _ _ _ _ _ _ _ _ _ _ _ _ _ _ _ _ _ _ _ _ _ _ _ _ _ _ _ _ _ _ _ _ _ _ _ _ _ _ _ _ _ _ _ _ _ _ _ _ _ _ _ _ _ _ _ _ _ _ _ _ _ _ _ _ _ _ _ _ _ _ _ _ _ _ _ _ _ _ _ _ _ _ _ _ _ _ _ _ _ _ _ _ _ _ _ _ _ _ _ _ _ _ _ _ _ _ _ _ _ _ _ _ _ _ _ _ _ _ _ _ _ _ _ _ _ _ _ _ _ _ _ _ _ _ _ _ _ _ _ _ _ _ _ _ _ _ _ _ _ _ _ _ _ _ _ _ _ MM2.out HB2.out hll HBN.out rfl rfl (by omega) (by omega) ?_) rfl rfl (by assumption)
              intro w3
              intros
              rename_i hb3 hk3
              have HB3 := hide (HFIN.out _ hb3)
              have HK3 := hide (HK2.out.trans hk3 (fun _ _ e => e))
              clear hb3 hk3
              generalize hc : fromR Tryd.f65 31 = c0
              conv at hc => lhs; whnf
              subst hc
              dsimp only [yOf]
              go_wp2_with fail
              go_roundw
              case rel => exact ⟨k + 1, 1 + n / 4, n % 4 + 1, by omega, by go_num, by congr 1; omega, by congr 1; omega, HB3.out.1, HB3.out.2, HK3.out⟩
              case measure => simp [intOf]; omega
            · have hy4 : y ≤ 3 := by
                rcases hot with ⟨_, _, h⟩ | ⟨h1, h2, h3⟩ <;> omega
              have hxn : x = 1 + n / 4 ∧ y = n % 4 := by
                rcases hot with ⟨h1, h2, h3⟩ | ⟨h1, h2, h3⟩ <;> omega
              have kc : ¬ (4 : Int) ≤ (y : Int) := by omega
              clear hot hy
              go_upto_region 31 with fail
              refine part_use (mt_p31 (q := n / 4) (r := n % 4) _ _ _ _ _ _ _ _ _ _ _ _ _ _ _ _ _ _ _ _ _ _ _ _ _ _ _ _ _ _ _ _ _ _ _ _ _ _ _ _ _ _ _ _ _ _ _ _ _ _ _ _ _ _ _ _ _ _ _ _ _ _ _ _ _ _ _ _ _ _ _ _ _ _ _ _ _ _ _ _ _ _ _ _ _ _ _ _ _ _ _ _ _ _ _ _ _ _ _ _ _ _ _ _ _ _ _ _ _ _ _ _ _ _ _ _ _ _ _ _ _ _ _ _ _ _ _ _ _ _ _ _ _ _ _ _ _ _ _ _ _ _ _ _ _ _ _ _ _ _ _ _ _ _ _ _ _ _ _ _ _ _ _ _ _ _ _ _ _ _ _ _ _ _ _ _ _ _ _ _ _ _ _ _ _ _ _ _ _ _ _ _ _ _ _ _ _ _ _ _ _ _ _ _ _ _ _ _ _ _ _ _ _ _ MM2.out HB2.out hll HBN.out rfl rfl (by omega) (by omega) ?_) rfl rfl (by assumption)
              intro w3
              intros
              rename_i hb3 hk3
              have HB3 := hide (HFIN.out _ hb3)
              have HK3 := hide (HK2.out.trans hk3 (fun _ _ e => e))
              have HX := hide hxn
              clear hb3 hk3 hxn
              generalize hc : fromR Tryd.f65 31 = c0
              conv at hc => lhs; whnf
              subst hc
              dsimp only [yOf]
              go_wp2_with fail
              go_roundw
              case rel => exact ⟨k + 1, 1 + n / 4, n % 4 + 1, by omega, by go_num, by have := HX.out; congr 1; omega, by have := HX.out; congr 1; omega, HB3.out.1, HB3.out.2, HK3.out⟩
              case measure => simp [intOf]; omega
          · rw [if_neg hkK] at hix
            have hnl1 : nl P.K s (k + 1) = nl P.K s k := by unfold nl; omega
            have HN1 := hide hnl1
            clear hnl1 hot
            go_wp2_with fail
            go_roundw
            case rel => exact ⟨k + 1, x, y, by omega, by go_num, rfl, rfl, by rw [HN1.out]; exact HOT2.out, by rw [HN1.out]; exact HB2.out, HK2.out⟩
            case measure => simp [intOf]; omega
        · obtain rfl : k = 4 := by omega
          have hnl1 : nl P.K s 4 = (s + 1) * P.K := by unfold nl; rw [Nat.succ_mul]; omega
          rw [hnl1] at HB2 HOT2
          clear hnl1 hot
          go_wp2_with fail
          go_roundw
          case rel => exact ⟨s + 1, x, y, by omega, by go_num, rfl, rfl, HOT2.out, HB2.out, HK2.out⟩
          case measure => simp [intOf]; omega
    · obtain rfl : s = P.S := by omega
      have hx : x = P.tl := by
        have h := HOT.out
        unfold Pv.tl Pv.L
        have := hL16.1
        unfold Pv.L at this
        rcases h with ⟨h1, _, _⟩ | ⟨h1, h2, h3⟩ <;> omega
      subst hx
      go_wp2_with fail
      exact HQ.out wr _ _ _ _ _ _ _ _ _ _ _ _ _ _ _ _ _ _ _ _ _ _ _ _ _ _ _ _ _ _ _ _ _ _ _ _ _ _ _ _ _ _ _ _ _ _ _ _ _ _ _ _ _ _ _ _ _ _ _ _ _ _ _ _ _ _ _ _ _ _ _ _ _ _ _ _ _ _ _ _ _ _ _ _ _ _ _ _ _ _ _ _ _ _ _ _ _ _ _ _ _ _ _ _ _ _ _ _ _ _ _ _ _ _ _ _ _ _ _ _ _ _ _ _ _ _ _ _ _ _ _ _ _ _ _ _ _ _ _ _ _ _ _ _ _ _ _ _ _ _ _ _ _ _ _ _ _ _ _ _ _ _ _ _ _ _ _ _ _ _ _ _ _ _ _ _ _ _ _ _ _ _ _ _ _ _ _ _ _ _ _ _ _ _ _ _ _ _ _ _ _ _ _ _ _ _ _ _ _ _ _ _ _ _ _ HB1.out HK1.out
end Go.Proofs.YtdlnmkpojiofoaaDoor
