/-
  (*rtp.Header).Unmarshal up to the extensions. Conditions: those that stand in each theorem.
-/
import Derived.Test.YtdmnflngafbobaaDoorGUn
import Derived.BigQuiet
import Derived.Deep.QuietTactic
import Derived.Test.YtdmnflngafbobaaDoorGUx
import Derived.Test.YtdmnflngafbobaaDoorGPun
namespace Go.Proofs.YtdmnflngafbobaaDoor
open Go.RowKit
set_option linter.unusedVariables false
set_option linter.unusedSimpArgs false
set_option maxRecDepth 100000

set_option maxHeartbeats 1600000 in
theorem un_p13x {p : Nat → Prop} {bs : List Int} {n c b o g k B : Nat} {t : TypeId} {rest : List Value} {sv : Value} {post : Ending → World → Prop} (w : World) (u2 u3 u7 u8 u9 u10 u11 u12 u13 u14 u15 u16 u17 u18 u19 u20 u21 u22 u23 u24 u25 u26 u27 u28 u29 u30 u31 u32 u33 u34 u35 u36 u37 u38 u39 u40 u41 u42 u43 u44 u45 u46 u47 u48 u49 u50 u51 u52 u53 u54 u55 u56 u57 u58 u59 u60 u61 u62 u63 u64 u65 u66 u67 u68 u69 u70 u71 u72 u73 u74 u75 u76 u77 u78 u79 u80 u81 u82 u83 u84 u85 u86 u87 u88 u89 u90 u91 u92 u93 u94 u95 u96 u97 u98 u99 u100 u101 u102 u103 u104 u105 u106 u107 u108 u109 u110 u111 u112 u113 u114 u115 u116 u117 u118 u119 u120 u121 u122 u123 u124 u125 u126 u127 u128 u129 u130 u131 u132 u133 u134 u135 u136 u137 u138 u139 u140 u141 u142 u143 u144 u145 u146 u147 u148 u149 u150 u151 u152 u153 u154 u155 u156 u157 u158 u159 u160 u161 u162 u163 u164 u165 u166 u167 u168 u169 u170 u171 u172 u173 u174 u175 u176 u177 u178 u179 u180 u181 u182 u183 u184 u185 u186 u187 u188 u189 u190 u191 u192 u193 u194 u195 u196 u197 u198 u199 u200 u201 u202 u203 u204 u205 u206 u207 u208 u209 u210 u211 u212 u213 u214 u215 u216 u217 u218 u219 u220 u221 u222 u223 u224 u225 u226 u227 u228 u229 u230 u231 u232 u233 u234 u235 u236 u237 u238 u239 u240 u241 u242 u243 u244 u245 u246 u247 u248 u249 u250 u251 u252 u253 u254 u255 u256 u257 u258 u259 u260 u261 u262 u263 u264 u265 u266 u267 u268 u269 u270 u271 u272 u273 u274 u275 u276 u277 u278 u279 u280 u281 u282 u283 u284 u285 u286 u287 u288 u289 u290 u291 u292 u293 u294 u295 u296 : Value)
    (hpost : ∀ (w' : World) (u2 u3 u7 u8 u9 u10 u11 u12 u13 u14 u15 u16 u17 u18 u19 u20 u21 u22 u23 u24 u25 u26 u27 u28 u29 u30 u31 u32 u33 u34 u35 u36 u37 u38 u39 u40 u41 u42 u43 u44 u45 u46 u47 u48 u49 u50 u51 u52 u53 u54 u55 u56 u57 u58 u59 u60 u61 u62 u63 u64 u65 u66 u67 u68 u69 u70 u71 u72 u73 u74 u75 u76 u77 u78 u79 u80 u81 u82 u83 u84 u85 u86 u87 u88 u89 u90 u91 u92 u93 u94 u95 u96 u97 u98 u99 u100 u101 u102 u103 u104 u105 u106 u107 u108 u109 u110 u111 u112 u113 u114 u115 u116 u117 u118 u119 u120 u121 u122 u123 u124 u125 u126 u127 u128 u129 u130 u131 u132 u133 u134 u135 u136 u137 u138 u139 u140 u141 u142 u143 u144 u145 u146 u147 u148 u149 u150 u151 u152 u153 u154 u155 u156 u157 u158 u159 u160 u161 u162 u163 u164 u165 u166 u167 u168 u169 u170 u171 u172 u173 u174 u175 u176 u177 u178 u179 u180 u181 u182 u183 u184 u185 u186 u187 u188 u189 u190 u191 u192 u193 u194 u195 u196 u197 u198 u199 u200 u201 u202 u203 u204 u205 u206 u207 u208 u209 u210 u211 u212 u213 u214 u215 u216 u217 u218 u219 u220 u221 u222 u223 u224 u225 u226 u227 u228 u229 u230 u231 u232 u233 u234 u235 u236 u237 u238 u239 u240 u241 u242 u243 u244 u245 u246 u247 u248 u249 u250 u251 u252 u253 u254 u255 u256 u257 u258 u259 u260 u261 u262 u263 u264 u265 u266 u267 u268 u269 u270 u271 u272 u273 u274 u275 u276 u277 u278 u279 u280 u281 u282 u283 u284 u285 u286 u287 u288 u289 u290 u291 u292 u293 u294 u295 u296 : Value), BL w' g t (uc (hdB bs) sv (.slice none 0 0) rest) → Own w' B 23 1 sv k (U32 (srcsR bs)) → Keep w w' (fun i => i = g ∨ sv.ownBlock = some i) →
      Part Tryd.prog Tryd.f71 25 (bodyPost Tryd.prog Tryd.f71 post) ⟨List.toArray (.pointer (some ⟨g, 0, none⟩) :: .slice (some ⟨b, o, none⟩) n c :: u2 :: u3 :: .int .i64 (12 + (k : Int) * 4) :: .nilIface :: .int .i64 (k : Int) :: u7 :: u8 :: u9 :: u10 :: u11 :: u12 :: u13 :: u14 :: u15 :: u16 :: u17 :: u18 :: u19 :: u20 :: u21 :: u22 :: u23 :: u24 :: u25 :: u26 :: u27 :: u28 :: u29 :: u30 :: u31 :: u32 :: u33 :: u34 :: u35 :: u36 :: u37 :: u38 :: u39 :: u40 :: u41 :: u42 :: u43 :: u44 :: u45 :: u46 :: u47 :: u48 :: u49 :: u50 :: u51 :: u52 :: u53 :: u54 :: u55 :: u56 :: u57 :: u58 :: u59 :: u60 :: u61 :: u62 :: u63 :: u64 :: u65 :: u66 :: u67 :: u68 :: u69 :: u70 :: u71 :: u72 :: u73 :: u74 :: u75 :: u76 :: u77 :: u78 :: u79 :: u80 :: u81 :: u82 :: u83 :: u84 :: u85 :: u86 :: u87 :: u88 :: u89 :: u90 :: u91 :: u92 :: u93 :: u94 :: u95 :: u96 :: u97 :: u98 :: u99 :: u100 :: u101 :: u102 :: u103 :: u104 :: u105 :: u106 :: u107 :: u108 :: u109 :: u110 :: u111 :: u112 :: u113 :: u114 :: u115 :: u116 :: u117 :: u118 :: u119 :: u120 :: u121 :: u122 :: u123 :: u124 :: u125 :: u126 :: u127 :: u128 :: u129 :: u130 :: u131 :: u132 :: u133 :: u134 :: u135 :: u136 :: u137 :: u138 :: u139 :: u140 :: u141 :: u142 :: u143 :: u144 :: u145 :: u146 :: u147 :: u148 :: u149 :: u150 :: u151 :: u152 :: u153 :: u154 :: u155 :: u156 :: u157 :: u158 :: u159 :: u160 :: u161 :: u162 :: u163 :: u164 :: u165 :: u166 :: u167 :: u168 :: u169 :: u170 :: u171 :: u172 :: u173 :: u174 :: u175 :: u176 :: u177 :: u178 :: u179 :: u180 :: u181 :: u182 :: u183 :: u184 :: u185 :: u186 :: u187 :: u188 :: u189 :: u190 :: u191 :: u192 :: u193 :: u194 :: u195 :: u196 :: u197 :: u198 :: u199 :: u200 :: u201 :: u202 :: u203 :: u204 :: u205 :: u206 :: u207 :: u208 :: u209 :: u210 :: u211 :: u212 :: u213 :: u214 :: u215 :: u216 :: u217 :: u218 :: u219 :: u220 :: u221 :: u222 :: u223 :: u224 :: u225 :: u226 :: u227 :: u228 :: u229 :: u230 :: u231 :: u232 :: u233 :: u234 :: u235 :: u236 :: u237 :: u238 :: u239 :: u240 :: u241 :: u242 :: u243 :: u244 :: u245 :: u246 :: u247 :: u248 :: u249 :: u250 :: u251 :: u252 :: u253 :: u254 :: u255 :: u256 :: u257 :: u258 :: u259 :: u260 :: u261 :: u262 :: u263 :: u264 :: u265 :: u266 :: u267 :: u268 :: u269 :: u270 :: u271 :: u272 :: u273 :: u274 :: u275 :: u276 :: u277 :: u278 :: u279 :: u280 :: u281 :: u282 :: u283 :: u284 :: u285 :: u286 :: u287 :: u288 :: u289 :: u290 :: u291 :: u292 :: u293 :: u294 :: u295 :: u296 :: []), []⟩ w')
    (hR : Rd w p 1 (.slice (some ⟨b, o, none⟩) n c) n (B8 bs)) (hI : IsB bs) (hk : k = cc bs) (hn : 12 + 4 * k ≤ n) (hnm : n ≤ 2147483647)
    (hG : BL w g t (uc (hdA bs) sv (.slice none 0 0) rest)) (hO : Own w B 23 1 sv k (U32 (List.replicate k 0))) (hsg : sv.ownBlock ≠ some g) (hpg : ∀ i, p i → i ≠ g ∧ sv.ownBlock ≠ some i) :
    Part Tryd.prog Tryd.f71 13 (bodyPost Tryd.prog Tryd.f71 post) ⟨List.toArray (.pointer (some ⟨g, 0, none⟩) :: .slice (some ⟨b, o, none⟩) n c :: u2 :: u3 :: .int .i64 (12 + (k : Int) * 4) :: .nilIface :: .int .i64 (k : Int) :: u7 :: u8 :: u9 :: u10 :: u11 :: u12 :: u13 :: u14 :: u15 :: u16 :: u17 :: u18 :: u19 :: u20 :: u21 :: u22 :: u23 :: u24 :: u25 :: u26 :: u27 :: u28 :: u29 :: u30 :: u31 :: u32 :: u33 :: u34 :: u35 :: u36 :: u37 :: u38 :: u39 :: u40 :: u41 :: u42 :: u43 :: u44 :: u45 :: u46 :: u47 :: u48 :: u49 :: u50 :: u51 :: u52 :: u53 :: u54 :: u55 :: u56 :: u57 :: u58 :: u59 :: u60 :: u61 :: u62 :: u63 :: u64 :: u65 :: u66 :: u67 :: u68 :: u69 :: u70 :: u71 :: u72 :: u73 :: u74 :: u75 :: u76 :: u77 :: u78 :: u79 :: u80 :: u81 :: u82 :: u83 :: u84 :: u85 :: u86 :: u87 :: u88 :: u89 :: u90 :: u91 :: u92 :: u93 :: u94 :: u95 :: u96 :: u97 :: u98 :: u99 :: u100 :: u101 :: u102 :: u103 :: u104 :: u105 :: u106 :: u107 :: u108 :: u109 :: u110 :: u111 :: u112 :: u113 :: u114 :: u115 :: u116 :: u117 :: u118 :: u119 :: u120 :: u121 :: u122 :: u123 :: u124 :: u125 :: u126 :: u127 :: u128 :: u129 :: u130 :: u131 :: u132 :: u133 :: u134 :: u135 :: u136 :: u137 :: u138 :: u139 :: u140 :: u141 :: u142 :: u143 :: u144 :: u145 :: u146 :: u147 :: u148 :: u149 :: u150 :: u151 :: u152 :: u153 :: u154 :: u155 :: u156 :: u157 :: u158 :: u159 :: u160 :: u161 :: u162 :: u163 :: u164 :: u165 :: u166 :: u167 :: u168 :: u169 :: u170 :: u171 :: u172 :: u173 :: u174 :: u175 :: u176 :: u177 :: u178 :: u179 :: u180 :: u181 :: u182 :: u183 :: u184 :: u185 :: u186 :: u187 :: u188 :: u189 :: u190 :: u191 :: u192 :: u193 :: u194 :: u195 :: u196 :: u197 :: u198 :: u199 :: u200 :: u201 :: u202 :: u203 :: u204 :: u205 :: u206 :: u207 :: u208 :: u209 :: u210 :: u211 :: u212 :: u213 :: u214 :: u215 :: u216 :: u217 :: u218 :: u219 :: u220 :: u221 :: u222 :: u223 :: u224 :: u225 :: u226 :: u227 :: u228 :: u229 :: u230 :: u231 :: u232 :: u233 :: u234 :: u235 :: u236 :: u237 :: u238 :: u239 :: u240 :: u241 :: u242 :: u243 :: u244 :: u245 :: u246 :: u247 :: u248 :: u249 :: u250 :: u251 :: u252 :: u253 :: u254 :: u255 :: u256 :: u257 :: u258 :: u259 :: u260 :: u261 :: u262 :: u263 :: u264 :: u265 :: u266 :: u267 :: u268 :: u269 :: u270 :: u271 :: u272 :: u273 :: u274 :: u275 :: u276 :: u277 :: u278 :: u279 :: u280 :: u281 :: u282 :: u283 :: u284 :: u285 :: u286 :: u287 :: u288 :: u289 :: u290 :: u291 :: u292 :: u293 :: u294 :: u295 :: u296 :: []), []⟩ w := by
  have HP := hide hpost
  have HPG := hide hpg
  have HI := hide hI
  have HK := hide hk
  have HG := hide hG
  have HO := hide hO
  have HR := hide hR
  have r1 := g8_rng hI 1
  have c1 := rd_at hR 1 (by omega)
  obtain ⟨_, _, _, hvv, hnc, hcm, hpb, hbw, hcc⟩ := hR.lit (by omega)
  clear hcc
  injection hvv with e1 _ e3
  injection e1 with e1
  injection e1 with e1 e2
  subst e1 e2 e3
  have hbg : ¬ b = g := (hpg b hpb).1
  have hgb : ¬ g = b := fun e => hbg e.symm
  have hbs : sv.ownBlock ≠ some b := (hpg b hpb).2
  have HBS := hide hbs
  have HSG := hide hsg
  have hgw := hG.lt
  have x3 := hG.cell 3 (v := .bool false) rfl
  have x4 := hG.cell 4 (v := .int .u8 0) rfl
  have fg := fun i => HG.out.free i
  have hk15 : k ≤ 15 := by have := g8_rng hI 0; rw [hk]; unfold cc; omega
  have q1 := bit_1 (g8 bs 1 / 128) (by omega)
  have q2 := bit_127 (g8 bs 1) r1
  clear hpost hpg hI hk hG hO hR hsg hbs
  refine part_open (fun c hc K hK => ?_)
  conv at hc => rhs; whnf
  subst hc
  dsimp only [xOf, yOf] at hK ⊢
  go_upto_region 16 with fail
  generalize hw1 : World.setCell (World.setCell w _ _) _ _ = w1
  have em : decide (0 < g8 bs 1 / 128 % 2) = decide (g8 bs 1 / 128 = 1) := decide_eq_decide.2 (by omega)
  have G1 := hide (show BL w1 g t (uc { hdA bs with mark := decide (g8 bs 1 / 128 = 1), ty := g8 bs 1 % 128 } sv (.slice none 0 0) rest) by subst hw1; rw [← em]; exact (HG.out.set 3 _).set 4 _)
  have K1 := hide (show Keep w w1 (· = g) by subst hw1; exact ((Keep.refl w (· = g)).setg _ (fun _ => rfl) _).setg _ (fun _ => rfl) _)
  clear hw1 em q1 q2 x3 x4 fg c1 r1 hgw
  have R1 := hide (HR.out.keep K1.out (fun i hi hp => (HPG.out i hp).1))
  have x5 := G1.out.cell 5 (v := .int .u16 0) rfl
  have fg := fun i => G1.out.free i
  have hgw := G1.out.lt
  go_wp2_with fail
  refine (be16_at w1 R1.out HI.out 2 (by omega) (by decide)).mono ?_
  rintro e w2 ⟨rfl, rfl⟩
  go_upto_region 17 with fail
  generalize hw2 : World.drew (World.setCell w1 _ _) = w2
  have G2 := hide (show BL w2 g t (uc { hdA bs with mark := decide (g8 bs 1 / 128 = 1), ty := g8 bs 1 % 128, seq := g16 bs 2 } sv (.slice none 0 0) rest) by subst hw2; exact (G1.out.set 5 _).drew)
  have K2 := hide (show Keep w w2 (· = g) by subst hw2; exact (K1.out.setg _ (fun _ => rfl) _).drew)
  clear hw2 x5 fg hgw
  have R2 := hide (HR.out.keep K2.out (fun i hi hp => (HPG.out i hp).1))
  have x6 := G2.out.cell 6 (v := .int .u32 0) rfl
  have fg := fun i => G2.out.free i
  have hgw := G2.out.lt
  go_wp2_with fail
  refine (be32_at w2 R2.out HI.out 4 (by omega) (by decide)).mono ?_
  rintro e w3 ⟨rfl, rfl⟩
  go_upto_region 18 with fail
  generalize hw3 : World.drew (World.setCell w2 _ _) = w3
  have G3 := hide (show BL w3 g t (uc { hdA bs with mark := decide (g8 bs 1 / 128 = 1), ty := g8 bs 1 % 128, seq := g16 bs 2, time := g32 bs 4 } sv (.slice none 0 0) rest) by subst hw3; exact (G2.out.set 6 _).drew)
  have K3 := hide (show Keep w w3 (· = g) by subst hw3; exact (K2.out.setg _ (fun _ => rfl) _).drew)
  clear hw3 x6 fg hgw
  have R3 := hide (HR.out.keep K3.out (fun i hi hp => (HPG.out i hp).1))
  have x7 := G3.out.cell 7 (v := .int .u32 0) rfl
  have fg := fun i => G3.out.free i
  have hgw := G3.out.lt
  go_wp2_with fail
  refine (be32_at w3 R3.out HI.out 8 (by omega) (by decide)).mono ?_
  rintro e w4 ⟨rfl, rfl⟩
  go_upto_region 19 with fail
  generalize hw4 : World.drew (World.setCell w3 _ _) = w4
  have G4 := hide (show BL w4 g t (uc (hdB bs) sv (.slice none 0 0) rest) by subst hw4; exact (G3.out.set 7 _).drew)
  have K4 := hide (show Keep w w4 (· = g) by subst hw4; exact (K3.out.setg _ (fun _ => rfl) _).drew)
  clear hw4 x7 fg hgw G1 G2 G3 K1 K2 K3 R1 R2 R3
  have x8 := G4.out.cell 8 (v := sv) rfl
  have O4 := hide (HO.out.keep K4.out (fun i hi e => HSG.out (e ▸ hi)))
  obtain ⟨As, cs, rfl⟩ := HO.out.rd.shape
  have hgw := G4.out.lt
  go_wp2_with fail
  go_loopw [123] (fun i wr => ∃ j : Nat, j ≤ k ∧ i = .int .i64 (j : Int) ∧ Own wr B 23 1 (.slice As k cs) k (U32 ((srcsR bs).take j ++ List.replicate (k - j) 0)) ∧ Keep w4 wr (fun i => (Value.slice As k cs).ownBlock = some i)) (fun i _ => k - (intOf i).toNat)
  case atStart => exact ⟨0, Nat.zero_le _, rfl, by simpa using O4.out, Keep.refl _ _⟩
  case round =>
    obtain ⟨j, hj, rfl, hO, hK⟩ := hrel
    have G5 := hide (G4.out.keep hK HSG.out)
    have K5 := hide ((K4.out.mono (S' := fun i => i = g ∨ (Value.slice As k cs).ownBlock = some i) (fun i _ e => .inl e)).trans hK (fun i _ e => .inr e))
    by_cases hlt : j < k
    · have hO2 := hO.2
      have OO := hide hO
      have KK := hide hK
      obtain ⟨gs, rfl⟩ : ∃ gs, As = some ⟨gs, 0, none⟩ := by
        rcases hO2 with ⟨_, h0⟩ | ⟨gs, _, _, _, hv, _⟩
        · omega
        · injection hv with e; exact ⟨gs, e⟩
      have R5 := hide ((HR.out.keep K4.out (fun i hi hp => (HPG.out i hp).1)).keep hK (fun i hi hp => (HPG.out i hp).2))
      clear hO hK hO2
      have hgl := hgw
      obtain ⟨hset, ⟨vj, hvj⟩, hfj⟩ := OO.out.set1 j (.int .u32 (g32 bs (12 + 4 * j))) hlt
      have HSET := hide hset
      have lgs := (OO.out.at_ gs rfl).2.1
      have hgsg : ¬ gs = g := fun e => HSG.out (by rw [e]; rfl)
      have hggs : ¬ g = gs := fun e => hgsg e.symm
      have hjk : (j : Int) < (k : Int) := by omega
      have n1 : ¬ c = 12 + j * 4 := by omega
      have n2 : (12 : Int) + (j : Int) * 4 ≤ (n : Int) := by omega
      have n3 : (0 : Int) ≤ (12 : Int) + (j : Int) * 4 := by omega
      have n4 : ((12 : Int) + (j : Int) * 4).toNat = 12 + j * 4 := by omega
      have n5 : 12 + j * 4 ≤ n := by omega
      have hg32 : g32 bs (12 + j * 4) = g32 bs (12 + 4 * j) := by rw [Nat.mul_comm]
      have G32 := hide hg32
      have y8 := G5.out.drew.cell 8 (v := .slice (some ⟨gs, 0, none⟩) k cs) rfl
      clear hset x8 hg32 hgl
      go_upto_region 23 with fail
      go_region_held3 (fun w' => w'.cell? ⟨g, 8, none⟩ = some (.slice (some ⟨gs, 0, none⟩) k cs))
        (first | exact y8 | exact (Blk.far (p := ⟨gs, j, none⟩) G5.out hggs _).cell 8 rfl)
        (first
          | (go_at_call 103; refine (be32_at wr.drew R5.out.drew HI.out (12 + j * 4) (by omega) (by omega)).mono ?_; rintro e wq ⟨rfl, rfl⟩))
      generalize hw6 : World.drew (World.drew (World.setCell wr _ _)) = w6
      have O6 := hide (show Own w6 B 23 1 (.slice (some ⟨gs, 0, none⟩) k cs) k (U32 ((srcsR bs).take (j + 1) ++ List.replicate (k - (j + 1)) 0)) by
        subst hw6
        have := HSET.out
        rw [srcs_step bs j k HK.out hlt] at this
        rw [G32.out]
        exact (this.keep0 ((Keep.refl _ Nul).drew)).keep0 ((Keep.refl _ Nul).drew))
      have K6 := hide (show Keep w4 w6 (fun i => (Value.slice (some ⟨gs, 0, none⟩) k cs).ownBlock = some i) by
        subst hw6
        exact (((KK.out.setg (g := gs) j (fun _ => rfl) _).drew).drew))
      clear hw6 n1 n2 n3 n4 n5 y8 hvj hfj
      go_wp2_with fail
      go_roundw
      case rel => exact ⟨j + 1, by omega, by go_num, O6.out, K6.out⟩
      case measure => simp [intOf]; omega
    · obtain rfl : j = k := by omega
      have hO' : Own wr B 23 1 (.slice As j cs) j (U32 (srcsR bs)) := by
        rw [List.take_of_length_le (by rw [srcsR_len]; have := HK.out; omega), Nat.sub_self] at hO
        simpa using hO
      have O7 := hide hO'
      have hzk := hK.size
      clear hO hO' hK x8
      go_upto_region 25 with fail
      exact part_use (HP.out wr _ _ _ _ _ _ _ _ _ _ _ _ _ _ _ _ _ _ _ _ _ _ _ _ _ _ _ _ _ _ _ _ _ _ _ _ _ _ _ _ _ _ _ _ _ _ _ _ _ _ _ _ _ _ _ _ _ _ _ _ _ _ _ _ _ _ _ _ _ _ _ _ _ _ _ _ _ _ _ _ _ _ _ _ _ _ _ _ _ _ _ _ _ _ _ _ _ _ _ _ _ _ _ _ _ _ _ _ _ _ _ _ _ _ _ _ _ _ _ _ _ _ _ _ _ _ _ _ _ _ _ _ _ _ _ _ _ _ _ _ _ _ _ _ _ _ _ _ _ _ _ _ _ _ _ _ _ _ _ _ _ _ _ _ _ _ _ _ _ _ _ _ _ _ _ _ _ _ _ _ _ _ _ _ _ _ _ _ _ _ _ _ _ _ _ _ _ _ _ _ _ _ _ _ _ _ _ _ _ _ _ _ _ _ _ _ _ _ _ _ _ _ _ _ _ _ _ _ _ _ _ _ _ _ _ _ _ _ _ _ _ _ _ _ _ _ _ _ _ _ _ _ _ _ _ _ _ _ _ _ _ _ _ _ _ _ _ _ _ _ _ _ _ _ _ _ _ _ _ _ _ _ _ _ _ _ _ _ _ _ _ _ G5.out O7.out K5.out) rfl rfl (by assumption)
end Go.Proofs.YtdmnflngafbobaaDoor
namespace Go.Proofs.YtdmnflngafbobaaDoor
open Go.RowKit
set_option linter.unusedVariables false
set_option linter.unusedSimpArgs false
set_option maxRecDepth 100000

set_option maxHeartbeats 1600000 in
theorem un_p25 {p : Nat → Prop} {bs : List Int} {n c b o g k : Nat} {t : TypeId} {rest : List Value} {sv : Value} {post : Ending → World → Prop} {te : TypeId} {ve : Value} (w : World) (u2 u3 u7 u8 u9 u10 u11 u12 u13 u14 u15 u16 u17 u18 u19 u20 u21 u22 u23 u24 u25 u26 u27 u28 u29 u30 u31 u32 u33 u34 u35 u36 u37 u38 u39 u40 u41 u42 u43 u44 u45 u46 u47 u48 u49 u50 u51 u52 u53 u54 u55 u56 u57 u58 u59 u60 u61 u62 u63 u64 u65 u66 u67 u68 u69 u70 u71 u72 u73 u74 u75 u76 u77 u78 u79 u80 u81 u82 u83 u84 u85 u86 u87 u88 u89 u90 u91 u92 u93 u94 u95 u96 u97 u98 u99 u100 u101 u102 u103 u104 u105 u106 u107 u108 u109 u110 u111 u112 u113 u114 u115 u116 u117 u118 u119 u120 u121 u122 u123 u124 u125 u126 u127 u128 u129 u130 u131 u132 u133 u134 u135 u136 u137 u138 u139 u140 u141 u142 u143 u144 u145 u146 u147 u148 u149 u150 u151 u152 u153 u154 u155 u156 u157 u158 u159 u160 u161 u162 u163 u164 u165 u166 u167 u168 u169 u170 u171 u172 u173 u174 u175 u176 u177 u178 u179 u180 u181 u182 u183 u184 u185 u186 u187 u188 u189 u190 u191 u192 u193 u194 u195 u196 u197 u198 u199 u200 u201 u202 u203 u204 u205 u206 u207 u208 u209 u210 u211 u212 u213 u214 u215 u216 u217 u218 u219 u220 u221 u222 u223 u224 u225 u226 u227 u228 u229 u230 u231 u232 u233 u234 u235 u236 u237 u238 u239 u240 u241 u242 u243 u244 u245 u246 u247 u248 u249 u250 u251 u252 u253 u254 u255 u256 u257 u258 u259 u260 u261 u262 u263 u264 u265 u266 u267 u268 u269 u270 u271 u272 u273 u274 u275 u276 u277 u278 u279 u280 u281 u282 u283 u284 u285 u286 u287 u288 u289 u290 u291 u292 u293 u294 u295 u296 : Value)
    (hbad : ∀ (m : Int) (w' : World), n < 16 + 4 * k → BL w' g t (uc (hdB bs) sv (.slice none 0 0) rest) → Keep w w' (· = g) → post (.returned (.tuple #[.int .i64 m, .iface te ve])) w')
    (h35 : ∀ (w' : World) (u2 u3 u6 u7 u8 u9 u10 u13 u14 u15 u16 u17 u18 u19 u20 u21 u22 u23 u24 u25 u26 u27 u28 u29 u30 u31 u32 u33 u34 u35 u36 u37 u38 u39 u40 u41 u42 u43 u44 u45 u46 u47 u48 u49 u50 u51 u52 u53 u54 u55 u56 u57 u58 u59 u60 u61 u62 u63 u64 u65 u66 u67 u68 u69 u70 u71 u72 u73 u74 u75 u76 u77 u78 u79 u80 u81 u82 u83 u84 u85 u86 u87 u88 u89 u90 u91 u92 u93 u94 u95 u96 u97 u98 u99 u100 u101 u102 u103 u104 u105 u106 u107 u108 u109 u110 u111 u112 u113 u114 u115 u116 u117 u118 u119 u120 u121 u122 u123 u124 u125 u126 u127 u128 u129 u130 u131 u132 u133 u134 u135 u136 u137 u138 u139 u140 u141 u142 u143 u144 u145 u146 u147 u148 u149 u150 u151 u152 u153 u154 u155 u156 u157 u158 u159 u160 u161 u162 u163 u164 u165 u166 u167 u168 u169 u170 u171 u172 u173 u174 u175 u176 u177 u178 u179 u180 u181 u182 u183 u184 u185 u186 u187 u188 u189 u190 u191 u192 u193 u194 u195 u196 u197 u198 u199 u200 u201 u202 u203 u204 u205 u206 u207 u208 u209 u210 u211 u212 u213 u214 u215 u216 u217 u218 u219 u220 u221 u222 u223 u224 u225 u226 u227 u228 u229 u230 u231 u232 u233 u234 u235 u236 u237 u238 u239 u240 u241 u242 u243 u244 u245 u246 u247 u248 u249 u250 u251 u252 u253 u254 u255 u256 u257 u258 u259 u260 u261 u262 u263 u264 u265 u266 u267 u268 u269 u270 u271 u272 u273 u274 u275 u276 u277 u278 u279 u280 u281 u282 u283 u284 u285 u286 u287 u288 u289 u290 u291 u292 u293 u294 u295 u296 : Value) (KK : Act → World → Prop), (∀ a w, (fromR Tryd.f71 63).wp Tryd.prog (bodyPost Tryd.prog Tryd.f71 post) a w → KK a w) → 16 + 4 * k ≤ n → BL w' g t (uc { hdB bs with prof := g16 bs (12 + 4 * k) } sv (.slice none 0 0) rest) → Keep w w' (· = g) →
      Part Tryd.prog Tryd.f71 35 (Exit.then KK (bodyPost Tryd.prog Tryd.f71 post)) ⟨List.toArray (.pointer (some ⟨g, 0, none⟩) :: .slice (some ⟨b, o, none⟩) n c :: u2 :: u3 :: .int .i64 (12 + (k : Int) * 4 + 2 + 2) :: .nilIface :: u6 :: u7 :: u8 :: u9 :: u10 :: .int .i64 (g16 bs (12 + 4 * k + 2) * 4) :: .int .i64 (12 + (k : Int) * 4 + 2 + 2 + g16 bs (12 + 4 * k + 2) * 4) :: u13 :: u14 :: u15 :: u16 :: u17 :: u18 :: u19 :: u20 :: u21 :: u22 :: u23 :: u24 :: u25 :: u26 :: u27 :: u28 :: u29 :: u30 :: u31 :: u32 :: u33 :: u34 :: u35 :: u36 :: u37 :: u38 :: u39 :: u40 :: u41 :: u42 :: u43 :: u44 :: u45 :: u46 :: u47 :: u48 :: u49 :: u50 :: u51 :: u52 :: u53 :: u54 :: u55 :: u56 :: u57 :: u58 :: u59 :: u60 :: u61 :: u62 :: u63 :: u64 :: u65 :: u66 :: u67 :: u68 :: u69 :: u70 :: u71 :: u72 :: u73 :: u74 :: u75 :: u76 :: u77 :: u78 :: u79 :: u80 :: u81 :: u82 :: u83 :: u84 :: u85 :: u86 :: u87 :: u88 :: u89 :: u90 :: u91 :: u92 :: u93 :: u94 :: u95 :: u96 :: u97 :: u98 :: u99 :: u100 :: u101 :: u102 :: u103 :: u104 :: u105 :: u106 :: u107 :: u108 :: u109 :: u110 :: u111 :: u112 :: u113 :: u114 :: u115 :: u116 :: u117 :: u118 :: u119 :: u120 :: u121 :: u122 :: u123 :: u124 :: u125 :: u126 :: u127 :: u128 :: u129 :: u130 :: u131 :: u132 :: u133 :: u134 :: u135 :: u136 :: u137 :: u138 :: u139 :: u140 :: u141 :: u142 :: u143 :: u144 :: u145 :: u146 :: u147 :: u148 :: u149 :: u150 :: u151 :: u152 :: u153 :: u154 :: u155 :: u156 :: u157 :: u158 :: u159 :: u160 :: u161 :: u162 :: u163 :: u164 :: u165 :: u166 :: u167 :: u168 :: u169 :: u170 :: u171 :: u172 :: u173 :: u174 :: u175 :: u176 :: u177 :: u178 :: u179 :: u180 :: u181 :: u182 :: u183 :: u184 :: u185 :: u186 :: u187 :: u188 :: u189 :: u190 :: u191 :: u192 :: u193 :: u194 :: u195 :: u196 :: u197 :: u198 :: u199 :: u200 :: u201 :: u202 :: u203 :: u204 :: u205 :: u206 :: u207 :: u208 :: u209 :: u210 :: u211 :: u212 :: u213 :: u214 :: u215 :: u216 :: u217 :: u218 :: u219 :: u220 :: u221 :: u222 :: u223 :: u224 :: u225 :: u226 :: u227 :: u228 :: u229 :: u230 :: u231 :: u232 :: u233 :: u234 :: u235 :: u236 :: u237 :: u238 :: u239 :: u240 :: u241 :: u242 :: u243 :: u244 :: u245 :: u246 :: u247 :: u248 :: u249 :: u250 :: u251 :: u252 :: u253 :: u254 :: u255 :: u256 :: u257 :: u258 :: u259 :: u260 :: u261 :: u262 :: u263 :: u264 :: u265 :: u266 :: u267 :: u268 :: u269 :: u270 :: u271 :: u272 :: u273 :: u274 :: u275 :: u276 :: u277 :: u278 :: u279 :: u280 :: u281 :: u282 :: u283 :: u284 :: u285 :: u286 :: u287 :: u288 :: u289 :: u290 :: u291 :: u292 :: u293 :: u294 :: u295 :: u296 :: []), []⟩ w')
    (hR : Rd w p 1 (.slice (some ⟨b, o, none⟩) n c) n (B8 bs)) (hI : IsB bs) (hk : k ≤ 15) (hn : 12 + 4 * k ≤ n) (hnm : n ≤ 2147483647) (hx : g8 bs 0 / 16 % 2 = 1)
    (hG : BL w g t (uc (hdB bs) sv (.slice none 0 0) rest)) (hpg : ∀ i, p i → i ≠ g) (he : w.cell? ⟨3, 0, none⟩ = some (.iface te ve)) (hge : g ≠ 3) :
    Part Tryd.prog Tryd.f71 25 (bodyPost Tryd.prog Tryd.f71 post) ⟨List.toArray (.pointer (some ⟨g, 0, none⟩) :: .slice (some ⟨b, o, none⟩) n c :: u2 :: u3 :: .int .i64 (12 + (k : Int) * 4) :: .nilIface :: .int .i64 (k : Int) :: u7 :: u8 :: u9 :: u10 :: u11 :: u12 :: u13 :: u14 :: u15 :: u16 :: u17 :: u18 :: u19 :: u20 :: u21 :: u22 :: u23 :: u24 :: u25 :: u26 :: u27 :: u28 :: u29 :: u30 :: u31 :: u32 :: u33 :: u34 :: u35 :: u36 :: u37 :: u38 :: u39 :: u40 :: u41 :: u42 :: u43 :: u44 :: u45 :: u46 :: u47 :: u48 :: u49 :: u50 :: u51 :: u52 :: u53 :: u54 :: u55 :: u56 :: u57 :: u58 :: u59 :: u60 :: u61 :: u62 :: u63 :: u64 :: u65 :: u66 :: u67 :: u68 :: u69 :: u70 :: u71 :: u72 :: u73 :: u74 :: u75 :: u76 :: u77 :: u78 :: u79 :: u80 :: u81 :: u82 :: u83 :: u84 :: u85 :: u86 :: u87 :: u88 :: u89 :: u90 :: u91 :: u92 :: u93 :: u94 :: u95 :: u96 :: u97 :: u98 :: u99 :: u100 :: u101 :: u102 :: u103 :: u104 :: u105 :: u106 :: u107 :: u108 :: u109 :: u110 :: u111 :: u112 :: u113 :: u114 :: u115 :: u116 :: u117 :: u118 :: u119 :: u120 :: u121 :: u122 :: u123 :: u124 :: u125 :: u126 :: u127 :: u128 :: u129 :: u130 :: u131 :: u132 :: u133 :: u134 :: u135 :: u136 :: u137 :: u138 :: u139 :: u140 :: u141 :: u142 :: u143 :: u144 :: u145 :: u146 :: u147 :: u148 :: u149 :: u150 :: u151 :: u152 :: u153 :: u154 :: u155 :: u156 :: u157 :: u158 :: u159 :: u160 :: u161 :: u162 :: u163 :: u164 :: u165 :: u166 :: u167 :: u168 :: u169 :: u170 :: u171 :: u172 :: u173 :: u174 :: u175 :: u176 :: u177 :: u178 :: u179 :: u180 :: u181 :: u182 :: u183 :: u184 :: u185 :: u186 :: u187 :: u188 :: u189 :: u190 :: u191 :: u192 :: u193 :: u194 :: u195 :: u196 :: u197 :: u198 :: u199 :: u200 :: u201 :: u202 :: u203 :: u204 :: u205 :: u206 :: u207 :: u208 :: u209 :: u210 :: u211 :: u212 :: u213 :: u214 :: u215 :: u216 :: u217 :: u218 :: u219 :: u220 :: u221 :: u222 :: u223 :: u224 :: u225 :: u226 :: u227 :: u228 :: u229 :: u230 :: u231 :: u232 :: u233 :: u234 :: u235 :: u236 :: u237 :: u238 :: u239 :: u240 :: u241 :: u242 :: u243 :: u244 :: u245 :: u246 :: u247 :: u248 :: u249 :: u250 :: u251 :: u252 :: u253 :: u254 :: u255 :: u256 :: u257 :: u258 :: u259 :: u260 :: u261 :: u262 :: u263 :: u264 :: u265 :: u266 :: u267 :: u268 :: u269 :: u270 :: u271 :: u272 :: u273 :: u274 :: u275 :: u276 :: u277 :: u278 :: u279 :: u280 :: u281 :: u282 :: u283 :: u284 :: u285 :: u286 :: u287 :: u288 :: u289 :: u290 :: u291 :: u292 :: u293 :: u294 :: u295 :: u296 :: []), []⟩ w := by
  have HB := hide hbad
  have H35 := hide h35
  have HPG := hide hpg
  have HI := hide hI
  have HG := hide hG
  have HR := hide hR
  have HE := hide he
  obtain ⟨_, _, _, hvv, hnc, hcm, hpb, hbw, hcc⟩ := hR.lit (by omega)
  clear hcc
  injection hvv with e1 _ e3
  injection e1 with e1
  injection e1 with e1 e2
  subst e1 e2 e3
  have x10 := hG.cell 10 (v := .slice none 0 0) rfl
  have fg := fun i => HG.out.free i
  have hgw := hG.lt
  clear hbad h35 hpg hI hG hR he
  refine part_open (fun c hc K hK => ?_)
  conv at hc => rhs; whnf
  subst hc
  dsimp only [xOf, yOf] at hK ⊢
  go_upto_region 26 with fail
  generalize hw1 : World.setCell w _ _ = w1
  have G1 := hide (show BL w1 g t (uc (hdB bs) sv (.slice none 0 0) rest) by subst hw1; exact HG.out.set 10 (.slice none 0 0))
  have K1 := hide (show Keep w w1 (· = g) by subst hw1; exact (Keep.refl w (· = g)).setg _ (fun _ => rfl) _)
  clear hw1 x10 fg
  have x2 := G1.out.cell 2 (v := .bool true) (by show some (Value.bool (decide (g8 bs 0 / 16 % 2 = 1))) = _; simp [hx])
  have x9 := G1.out.cell 9 (v := .int .u16 0) rfl
  have fg := fun i => G1.out.free i
  have hgw := G1.out.lt
  have R1 := hide (HR.out.keep K1.out (fun i hi hp => HPG.out i hp))
  by_cases hs : n < 16 + 4 * k
  · have hs1 : (n : Int) < 12 + (k : Int) * 4 + 4 := by omega
    have q3 : ∀ m, (w1.drewN m).cell? ⟨3, 0, none⟩ = some (.iface te ve) := fun m => (K1.out.drewN m).cell (fun e => hge e.symm) HE.out
    go_upto_region 29 with fail
    go_quiet (fail)
    go_wp2_with fail
    (try go_ret2)
    exact HB.out _ _ hs (G1.out.keep ((Keep.refl w1 Nul).drewN _) (fun h => h)) (K1.out.drewN _)
  · have hs1 : ¬ (n : Int) < 12 + (k : Int) * 4 + 4 := by omega
    have a1 : ¬ c = 12 + k * 4 := by omega
    have a2 : ¬ c = 12 + k * 4 + 2 := by omega
    have hs2 : (12 : Int) + (k : Int) * 4 ≤ (n : Int) := by omega
    have hs3 : (12 : Int) + (k : Int) * 4 + 2 ≤ (n : Int) := by omega
    have hs4 : (0 : Int) ≤ (12 : Int) + (k : Int) * 4 := by omega
    have hs5 : ((12 : Int) + (k : Int) * 4).toNat = 12 + k * 4 := by omega
    have hs6 : (0 : Int) ≤ (12 : Int) + (k : Int) * 4 + 2 := by omega
    have hs7 : ((12 : Int) + (k : Int) * 4 + 2).toNat = 12 + k * 4 + 2 := by omega
    go_wp2_with fail
    refine (be16_at w1 R1.out HI.out (12 + k * 4) (by omega) (by omega)).mono ?_
    rintro e w2 ⟨rfl, rfl⟩
    have hg1 : g16 bs (12 + k * 4) = g16 bs (12 + 4 * k) := by rw [Nat.mul_comm]
    have hg2 : g16 bs (12 + k * 4 + 2) = g16 bs (12 + 4 * k + 2) := by rw [Nat.mul_comm k 4]
    have r0 := g8_rng HI.out (12 + 4 * k + 2)
    have r1 := g8_rng HI.out (12 + 4 * k + 2 + 1)
    have r16 : 0 ≤ g16 bs (12 + 4 * k + 2) ∧ g16 bs (12 + 4 * k + 2) ≤ 65535 := by unfold g16; omega
    have HG1 := hide hg1
    clear hg1 x2 r0 r1
    have HG2 := hide hg2
    clear hg2
    dsimp only
    go_upto_region 31 with fail
    generalize hw2 : World.drew (World.setCell w1 _ _) = w2
    have G2 := hide (show BL w2 g t (uc { hdB bs with prof := g16 bs (12 + 4 * k) } sv (.slice none 0 0) rest) by subst hw2; rw [← HG1.out]; exact (G1.out.set 9 _).drew)
    have K2 := hide (show Keep w w2 (· = g) by subst hw2; exact (K1.out.setg _ (fun _ => rfl) _).drew)
    clear hw2 x9 fg
    have R2 := hide (HR.out.keep K2.out (fun i hi hp => HPG.out i hp))
    go_wp2_with fail
    refine (be16_at w2 R2.out HI.out (12 + k * 4 + 2) (by omega) (by omega)).mono ?_
    rintro e w3 ⟨rfl, rfl⟩
    have h35a := fun (u2 u3 u6 u7 u8 u9 u10 u13 u14 u15 u16 u17 u18 u19 u20 u21 u22 u23 u24 u25 u26 u27 u28 u29 u30 u31 u32 u33 u34 u35 u36 u37 u38 u39 u40 u41 u42 u43 u44 u45 u46 u47 u48 u49 u50 u51 u52 u53 u54 u55 u56 u57 u58 u59 u60 u61 u62 u63 u64 u65 u66 u67 u68 u69 u70 u71 u72 u73 u74 u75 u76 u77 u78 u79 u80 u81 u82 u83 u84 u85 u86 u87 u88 u89 u90 u91 u92 u93 u94 u95 u96 u97 u98 u99 u100 u101 u102 u103 u104 u105 u106 u107 u108 u109 u110 u111 u112 u113 u114 u115 u116 u117 u118 u119 u120 u121 u122 u123 u124 u125 u126 u127 u128 u129 u130 u131 u132 u133 u134 u135 u136 u137 u138 u139 u140 u141 u142 u143 u144 u145 u146 u147 u148 u149 u150 u151 u152 u153 u154 u155 u156 u157 u158 u159 u160 u161 u162 u163 u164 u165 u166 u167 u168 u169 u170 u171 u172 u173 u174 u175 u176 u177 u178 u179 u180 u181 u182 u183 u184 u185 u186 u187 u188 u189 u190 u191 u192 u193 u194 u195 u196 u197 u198 u199 u200 u201 u202 u203 u204 u205 u206 u207 u208 u209 u210 u211 u212 u213 u214 u215 u216 u217 u218 u219 u220 u221 u222 u223 u224 u225 u226 u227 u228 u229 u230 u231 u232 u233 u234 u235 u236 u237 u238 u239 u240 u241 u242 u243 u244 u245 u246 u247 u248 u249 u250 u251 u252 u253 u254 u255 u256 u257 u258 u259 u260 u261 u262 u263 u264 u265 u266 u267 u268 u269 u270 u271 u272 u273 u274 u275 u276 u277 u278 u279 u280 u281 u282 u283 u284 u285 u286 u287 u288 u289 u290 u291 u292 u293 u294 u295 u296 : Value) KK hKK => H35.out w2.drew u2 u3 u6 u7 u8 u9 u10 u13 u14 u15 u16 u17 u18 u19 u20 u21 u22 u23 u24 u25 u26 u27 u28 u29 u30 u31 u32 u33 u34 u35 u36 u37 u38 u39 u40 u41 u42 u43 u44 u45 u46 u47 u48 u49 u50 u51 u52 u53 u54 u55 u56 u57 u58 u59 u60 u61 u62 u63 u64 u65 u66 u67 u68 u69 u70 u71 u72 u73 u74 u75 u76 u77 u78 u79 u80 u81 u82 u83 u84 u85 u86 u87 u88 u89 u90 u91 u92 u93 u94 u95 u96 u97 u98 u99 u100 u101 u102 u103 u104 u105 u106 u107 u108 u109 u110 u111 u112 u113 u114 u115 u116 u117 u118 u119 u120 u121 u122 u123 u124 u125 u126 u127 u128 u129 u130 u131 u132 u133 u134 u135 u136 u137 u138 u139 u140 u141 u142 u143 u144 u145 u146 u147 u148 u149 u150 u151 u152 u153 u154 u155 u156 u157 u158 u159 u160 u161 u162 u163 u164 u165 u166 u167 u168 u169 u170 u171 u172 u173 u174 u175 u176 u177 u178 u179 u180 u181 u182 u183 u184 u185 u186 u187 u188 u189 u190 u191 u192 u193 u194 u195 u196 u197 u198 u199 u200 u201 u202 u203 u204 u205 u206 u207 u208 u209 u210 u211 u212 u213 u214 u215 u216 u217 u218 u219 u220 u221 u222 u223 u224 u225 u226 u227 u228 u229 u230 u231 u232 u233 u234 u235 u236 u237 u238 u239 u240 u241 u242 u243 u244 u245 u246 u247 u248 u249 u250 u251 u252 u253 u254 u255 u256 u257 u258 u259 u260 u261 u262 u263 u264 u265 u266 u267 u268 u269 u270 u271 u272 u273 u274 u275 u276 u277 u278 u279 u280 u281 u282 u283 u284 u285 u286 u287 u288 u289 u290 u291 u292 u293 u294 u295 u296 KK hKK (by omega) G2.out.drew K2.out.drew
    dsimp only
    rw [HG2.out]
    have H35' := hide h35a
    clear h35a HG2
    generalize g16 bs (12 + 4 * k + 2) = L at *
    go_upto_region 35 with fail
    exact part_use (H35'.out _ _ _ _ _ _ _ _ _ _ _ _ _ _ _ _ _ _ _ _ _ _ _ _ _ _ _ _ _ _ _ _ _ _ _ _ _ _ _ _ _ _ _ _ _ _ _ _ _ _ _ _ _ _ _ _ _ _ _ _ _ _ _ _ _ _ _ _ _ _ _ _ _ _ _ _ _ _ _ _ _ _ _ _ _ _ _ _ _ _ _ _ _ _ _ _ _ _ _ _ _ _ _ _ _ _ _ _ _ _ _ _ _ _ _ _ _ _ _ _ _ _ _ _ _ _ _ _ _ _ _ _ _ _ _ _ _ _ _ _ _ _ _ _ _ _ _ _ _ _ _ _ _ _ _ _ _ _ _ _ _ _ _ _ _ _ _ _ _ _ _ _ _ _ _ _ _ _ _ _ _ _ _ _ _ _ _ _ _ _ _ _ _ _ _ _ _ _ _ _ _ _ _ _ _ _ _ _ _ _ _ _ _ _ _ _ _ _ _ _ _ _ _ _ _ _ _ _ _ _ _ _ _ _ _ _ _ _ _ _ _ _ _ _ _ _ _ _ _ _ _ _ _ _ _ _ _ _ _ _ _ _ _ _ _ _ _ _ _ _ _ _ _ _ _ _ _ _ _ _ _ _ _ _ _ _ _ _ _ _ _ _ (by assumption)) rfl rfl (by assumption)
end Go.Proofs.YtdmnflngafbobaaDoor
namespace Go.Proofs.YtdmnflngafbobaaDoor
open Go.RowKit
set_option linter.unusedVariables false
set_option linter.unusedSimpArgs false

theorem extsOf_count {prof : Int} {l : List Int} {xs : List Ex} (h : extsOf prof l = some xs) : xs.length ≤ l.length + 1 ∧ ∀ x ∈ xs, x.data.length ≤ l.length := by
  unfold extsOf at h
  split at h
  · cases h
  · split at h
    · injection h with h
      subst h
      exact ⟨by simp, fun x hx => by simp at hx; subst hx; exact Nat.le_refl _⟩
    · obtain ⟨h1, h2⟩ := readX_count _ _ _ _ h
      exact ⟨by omega, h2⟩

theorem hsSpec {bs : List Int} (hI : IsB bs) : HsSpec bs := by
  intro h m hr
  have hc : cc bs ≤ 15 := by unfold cc; omega
  have hsl : (headR bs).srcs.length = cc bs := srcsR_len ..
  unfold readB at hr
  split at hr
  · cases hr
  · rename_i h12
    split at hr
    · cases hr
    · rename_i hcc
      split at hr
      · cases hr
      · split at hr
        · cases hr
          exact ⟨⟨by omega, by show (0 : Nat) ≤ _; omega, fun x hx => by cases hx⟩, by omega, by omega, rfl⟩
        · split at hr
          · cases hr
          · split at hr
            · cases hr
            · rename_i hlen
              split at hr
              · cases hr
              · rename_i xs hx
                cases hr
                obtain ⟨c1, c2⟩ := extsOf_count hx
                have r0 := g8_rng hI (12 + 4 * cc bs + 2)
                have r1 := g8_rng hI (12 + 4 * cc bs + 2 + 1)
                have hg : g16 bs (12 + 4 * cc bs + 2) ≤ 65535 := by unfold g16; omega
                rw [List.length_take, List.length_drop] at c1 c2
                refine ⟨⟨by show (headR bs).srcs.length ≤ _; omega, by show xs.length ≤ _; omega, fun x hx' => ?_⟩, by omega, by omega, rfl⟩
                have := c2 x hx'
                omega
end Go.Proofs.YtdmnflngafbobaaDoor
namespace Go.Proofs.YtdmnflngafbobaaDoor
open Go.RowKit
set_option linter.unusedVariables false
set_option linter.unusedSimpArgs false
set_option maxRecDepth 100000

/-- What the reference reads of a header with extensions. -/
theorem readB_x {bs : List Int} {k : Nat} (hk : k = cc bs) (hcc : 12 + 4 * k ≤ bs.length) (hx : g8 bs 0 / 16 % 2 = 1) (hv : readB bs ≠ .wide) {L : Nat} (hL : L = (g16 bs (12 + 4 * k + 2)).toNat) :
    (bs.length < 16 + 4 * k → readB bs = .bad) ∧ (16 + 4 * k ≤ bs.length → bs.length < 12 + 4 * k + 4 + 4 * L → readB bs = .bad) ∧
    (12 + 4 * k + 4 + 4 * L ≤ bs.length → extsOf (g16 bs (12 + 4 * k)) (pieceB bs (12 + 4 * k + 4) (12 + 4 * k + 4 + 4 * L)) ≠ none) ∧
    (∀ ys, 12 + 4 * k + 4 + 4 * L ≤ bs.length → extsOf (g16 bs (12 + 4 * k)) (pieceB bs (12 + 4 * k + 4) (12 + 4 * k + 4 + 4 * L)) = some ys → readB bs = .good { headR bs with prof := g16 bs (12 + 4 * k), exts := ys } (12 + 4 * k + 4 + 4 * L)) := by
  subst hk hL
  have hE : (headR bs).ext = true := by show decide (g8 bs 0 / 16 % 2 = 1) = true; simp [hx]
  have hp : pieceB bs (12 + 4 * cc bs + 4) (12 + 4 * cc bs + 4 + 4 * (g16 bs (12 + 4 * cc bs + 2)).toNat) = (bs.drop (12 + 4 * cc bs + 4)).take (4 * (g16 bs (12 + 4 * cc bs + 2)).toNat) := by
    unfold pieceB; rw [Nat.add_sub_cancel_left]
  rw [hp]
  unfold readB at hv ⊢
  rw [if_neg (by omega), if_neg (by omega)] at hv ⊢
  by_cases h2 : g8 bs 0 / 64 ≠ 2
  · rw [if_pos h2] at hv; exact absurd rfl hv
  rw [if_neg h2, if_neg (by rw [hE]; simp)] at hv ⊢
  refine ⟨fun h => by rw [if_pos (by omega)], fun h1 h => by rw [if_neg (by omega), if_pos h], fun h hn => ?_, fun ys h hs => ?_⟩
  · rw [if_neg (by omega), if_neg (by omega), hn] at hv; exact absurd rfl hv
  · rw [if_neg (by omega), if_neg (by omega), hs]

set_option maxHeartbeats 1600000 in
theorem unSpec {bs : List Int} (hI : IsB bs) (hv : readB bs ≠ .wide) : UnSpec bs := by
  by_cases hx0 : 4 ≤ bs.length → g8 bs 0 / 16 % 2 ≠ 1
  · exact unSpec0 hI hx0 hv
  have h4 : 4 ≤ bs.length := by
    by_cases h : 4 ≤ bs.length
    · exact h
    · exact absurd (fun h' => absurd h' h) hx0
  have hx : g8 bs 0 / 16 % 2 = 1 := by
    by_cases h : g8 bs 0 / 16 % 2 = 1
    · exact h
    · exact absurd (fun _ => h) hx0
  intro p w n c g A t rest hR hnm hp hB he hge
  have hl : bs.length = n := by have := hR.len; rwa [B8_len] at this
  obtain ⟨te, ve, he1⟩ := he.e1
  obtain ⟨te2, ve2, he2⟩ := he.e2
  have hgw := hB.lt
  have hbad : n < 12 + 4 * cc bs → readB bs = .bad := by
    intro h
    unfold readB
    by_cases h1 : bs.length < 12
    · rw [if_pos h1]
    · rw [if_neg h1, if_pos (by omega)]
  have hub : n < 12 + 4 * cc bs → UnBad w g t rest (UnPost bs w g t rest (fun k => w.heap.size ≤ k ∨ p k)) te ve := fun h m w' hd h1 h2 h3 h4 => .inr ⟨hbad h, m, te, ve, hd, rfl, h1, h2, h3.mono (fun k _ hk => .inl hk), h4⟩
  obtain ⟨b, o, c', hv', q1, q2, q3, q4, -⟩ := hR.lit (by omega)
  injection hv' with e1 _ e3
  subst e1 e3
  refine un_head (p := p) w hR hI (by omega) hnm (fun i hi => (hp i hi).1) hB he1 (fun e => hge (.inl e)) hub ?_
  intro wx sv u2 u3 u7 u8 u9 u10 u11 u12 u13 u14 u15 u16 u17 u18 u19 u20 u21 u22 u23 u24 u25 u26 u27 u28 u29 u30 u31 u32 u33 u34 u35 u36 u37 u38 u39 u40 u41 u42 u43 u44 u45 u46 u47 u48 u49 u50 u51 u52 u53 u54 u55 u56 u57 u58 u59 u60 u61 u62 u63 u64 u65 u66 u67 u68 u69 u70 u71 u72 u73 u74 u75 u76 u77 u78 u79 u80 u81 u82 u83 u84 u85 u86 u87 u88 u89 u90 u91 u92 u93 u94 u95 u96 u97 u98 u99 u100 u101 u102 u103 u104 u105 u106 u107 u108 u109 u110 u111 u112 u113 u114 u115 u116 u117 u118 u119 u120 u121 u122 u123 u124 u125 u126 u127 u128 u129 u130 u131 u132 u133 u134 u135 u136 u137 u138 u139 u140 u141 u142 u143 u144 u145 u146 u147 u148 u149 u150 u151 u152 u153 u154 u155 u156 u157 u158 u159 u160 u161 u162 u163 u164 u165 u166 u167 u168 u169 u170 u171 u172 u173 u174 u175 u176 u177 u178 u179 u180 u181 u182 u183 u184 u185 u186 u187 u188 u189 u190 u191 u192 u193 u194 u195 u196 u197 u198 u199 u200 u201 u202 u203 u204 u205 u206 u207 u208 u209 u210 u211 u212 u213 u214 u215 u216 u217 u218 u219 u220 u221 u222 u223 u224 u225 u226 u227 u228 u229 u230 u231 u232 u233 u234 u235 u236 u237 u238 u239 u240 u241 u242 u243 u244 u245 u246 u247 u248 u249 u250 u251 u252 u253 u254 u255 u256 u257 u258 u259 u260 u261 u262 u263 u264 u265 u266 u267 u268 u269 u270 u271 u272 u273 u274 u275 u276 u277 u278 u279 u280 u281 u282 u283 u284 u285 u286 u287 u288 u289 u290 u291 u292 u293 u294 u295 u296 hle hGx hOx hKx
  have hsb := fun i e => (hOx.at_ i e).1
  refine un_p13x (p := p) (bs := bs) (B := w.heap.size) wx _ _ _ _ _ _ _ _ _ _ _ _ _ _ _ _ _ _ _ _ _ _ _ _ _ _ _ _ _ _ _ _ _ _ _ _ _ _ _ _ _ _ _ _ _ _ _ _ _ _ _ _ _ _ _ _ _ _ _ _ _ _ _ _ _ _ _ _ _ _ _ _ _ _ _ _ _ _ _ _ _ _ _ _ _ _ _ _ _ _ _ _ _ _ _ _ _ _ _ _ _ _ _ _ _ _ _ _ _ _ _ _ _ _ _ _ _ _ _ _ _ _ _ _ _ _ _ _ _ _ _ _ _ _ _ _ _ _ _ _ _ _ _ _ _ _ _ _ _ _ _ _ _ _ _ _ _ _ _ _ _ _ _ _ _ _ _ _ _ _ _ _ _ _ _ _ _ _ _ _ _ _ _ _ _ _ _ _ _ _ _ _ _ _ _ _ _ _ _ _ _ _ _ _ _ _ _ _ _ _ _ _ _ _ _ _ _ _ _ _ _ _ _ _ _ _ _ _ _ _ _ _ _ _ _ _ _ _ _ _ _ _ _ _ _ _ _ _ _ _ _ _ _ _ _ _ _ _ _ _ _ _ _ _ _ _ _ _ _ _ _ _ _ _ _ _ _ _ _ _ _ _ _ _ _ _ _ _ _ _ _ _ ?_ (hR.keep hKx (fun i _ hi e => (hp i hi).1 e)) hI rfl hle hnm hGx hOx (fun e => by have := hsb g e; omega) (fun i hi => ⟨(hp i hi).1, fun e => by have := hsb i e; have := (hp i hi).2; omega⟩)
  intro w1 u2 u3 u7 u8 u9 u10 u11 u12 u13 u14 u15 u16 u17 u18 u19 u20 u21 u22 u23 u24 u25 u26 u27 u28 u29 u30 u31 u32 u33 u34 u35 u36 u37 u38 u39 u40 u41 u42 u43 u44 u45 u46 u47 u48 u49 u50 u51 u52 u53 u54 u55 u56 u57 u58 u59 u60 u61 u62 u63 u64 u65 u66 u67 u68 u69 u70 u71 u72 u73 u74 u75 u76 u77 u78 u79 u80 u81 u82 u83 u84 u85 u86 u87 u88 u89 u90 u91 u92 u93 u94 u95 u96 u97 u98 u99 u100 u101 u102 u103 u104 u105 u106 u107 u108 u109 u110 u111 u112 u113 u114 u115 u116 u117 u118 u119 u120 u121 u122 u123 u124 u125 u126 u127 u128 u129 u130 u131 u132 u133 u134 u135 u136 u137 u138 u139 u140 u141 u142 u143 u144 u145 u146 u147 u148 u149 u150 u151 u152 u153 u154 u155 u156 u157 u158 u159 u160 u161 u162 u163 u164 u165 u166 u167 u168 u169 u170 u171 u172 u173 u174 u175 u176 u177 u178 u179 u180 u181 u182 u183 u184 u185 u186 u187 u188 u189 u190 u191 u192 u193 u194 u195 u196 u197 u198 u199 u200 u201 u202 u203 u204 u205 u206 u207 u208 u209 u210 u211 u212 u213 u214 u215 u216 u217 u218 u219 u220 u221 u222 u223 u224 u225 u226 u227 u228 u229 u230 u231 u232 u233 u234 u235 u236 u237 u238 u239 u240 u241 u242 u243 u244 u245 u246 u247 u248 u249 u250 u251 u252 u253 u254 u255 u256 u257 u258 u259 u260 u261 u262 u263 u264 u265 u266 u267 u268 u269 u270 u271 u272 u273 u274 u275 u276 u277 u278 u279 u280 u281 u282 u283 u284 u285 u286 u287 u288 u289 u290 u291 u292 u293 u294 u295 u296 hG1 hO1 hK1
  have K1 : Keep w w1 (· = g) := hKx.trans hK1 (fun i hi e => e.elim id (fun e => by have := hsb i e; omega))
  have hsl : (srcsR bs).length = cc bs := srcsR_len bs
  have hk15 : cc bs ≤ 15 := by unfold cc; omega
  have r0 := g8_rng hI (12 + 4 * cc bs + 2)
  have r1 := g8_rng hI (12 + 4 * cc bs + 2 + 1)
  have r16 : 0 ≤ g16 bs (12 + 4 * cc bs + 2) ∧ g16 bs (12 + 4 * cc bs + 2) ≤ 65535 := by unfold g16; omega
  obtain ⟨L, hL⟩ : ∃ L, L = (g16 bs (12 + 4 * cc bs + 2)).toNat := ⟨_, rfl⟩
  have hLi : g16 bs (12 + 4 * cc bs + 2) = (L : Int) := by omega
  obtain ⟨z1, z2, z3, z4⟩ := readB_x (bs := bs) rfl (by omega) hx hv hL
  refine un_p25 (p := p) (bs := bs) (k := cc bs) w1 _ _ _ _ _ _ _ _ _ _ _ _ _ _ _ _ _ _ _ _ _ _ _ _ _ _ _ _ _ _ _ _ _ _ _ _ _ _ _ _ _ _ _ _ _ _ _ _ _ _ _ _ _ _ _ _ _ _ _ _ _ _ _ _ _ _ _ _ _ _ _ _ _ _ _ _ _ _ _ _ _ _ _ _ _ _ _ _ _ _ _ _ _ _ _ _ _ _ _ _ _ _ _ _ _ _ _ _ _ _ _ _ _ _ _ _ _ _ _ _ _ _ _ _ _ _ _ _ _ _ _ _ _ _ _ _ _ _ _ _ _ _ _ _ _ _ _ _ _ _ _ _ _ _ _ _ _ _ _ _ _ _ _ _ _ _ _ _ _ _ _ _ _ _ _ _ _ _ _ _ _ _ _ _ _ _ _ _ _ _ _ _ _ _ _ _ _ _ _ _ _ _ _ _ _ _ _ _ _ _ _ _ _ _ _ _ _ _ _ _ _ _ _ _ _ _ _ _ _ _ _ _ _ _ _ _ _ _ _ _ _ _ _ _ _ _ _ _ _ _ _ _ _ _ _ _ _ _ _ _ _ _ _ _ _ _ _ _ _ _ _ _ _ _ _ _ _ _ _ _ _ _ _ _ _ _ _ _ _ _ _ _ ?_ ?_ (hR.keep K1 (fun i _ hi e => (hp i hi).1 e)) hI hk15 hle hnm hx hG1 (fun i hi => (hp i hi).1) (K1.cell (fun e => hge (.inr (.inl e.symm))) he2) (fun e => hge (.inr (.inl e)))
  · intro m w' hlt hG' hK'
    refine .inr ⟨z1 (by omega), m, te2, ve2, headR bs, rfl, by show (srcsR bs).length ≤ 15; omega, rfl, ⟨sv, .slice none 0 0, hG', ?_, XR.nil_ _ _⟩, K1.trans hK' (fun _ _ e => e)⟩
    show Rd w' _ 1 sv (srcsR bs).length (U32 (srcsR bs))
    rw [hsl]
    exact (hO1.keep hK' (fun i e e' => by have := (hO1.at_ i e).1; omega)).rdB.mono (fun i _ hi => .inl hi)
  · intro w2 u2 u3 u6 u7 u8 u9 u10 u13 u14 u15 u16 u17 u18 u19 u20 u21 u22 u23 u24 u25 u26 u27 u28 u29 u30 u31 u32 u33 u34 u35 u36 u37 u38 u39 u40 u41 u42 u43 u44 u45 u46 u47 u48 u49 u50 u51 u52 u53 u54 u55 u56 u57 u58 u59 u60 u61 u62 u63 u64 u65 u66 u67 u68 u69 u70 u71 u72 u73 u74 u75 u76 u77 u78 u79 u80 u81 u82 u83 u84 u85 u86 u87 u88 u89 u90 u91 u92 u93 u94 u95 u96 u97 u98 u99 u100 u101 u102 u103 u104 u105 u106 u107 u108 u109 u110 u111 u112 u113 u114 u115 u116 u117 u118 u119 u120 u121 u122 u123 u124 u125 u126 u127 u128 u129 u130 u131 u132 u133 u134 u135 u136 u137 u138 u139 u140 u141 u142 u143 u144 u145 u146 u147 u148 u149 u150 u151 u152 u153 u154 u155 u156 u157 u158 u159 u160 u161 u162 u163 u164 u165 u166 u167 u168 u169 u170 u171 u172 u173 u174 u175 u176 u177 u178 u179 u180 u181 u182 u183 u184 u185 u186 u187 u188 u189 u190 u191 u192 u193 u194 u195 u196 u197 u198 u199 u200 u201 u202 u203 u204 u205 u206 u207 u208 u209 u210 u211 u212 u213 u214 u215 u216 u217 u218 u219 u220 u221 u222 u223 u224 u225 u226 u227 u228 u229 u230 u231 u232 u233 u234 u235 u236 u237 u238 u239 u240 u241 u242 u243 u244 u245 u246 u247 u248 u249 u250 u251 u252 u253 u254 u255 u256 u257 u258 u259 u260 u261 u262 u263 u264 u265 u266 u267 u268 u269 u270 u271 u272 u273 u274 u275 u276 u277 u278 u279 u280 u281 u282 u283 u284 u285 u286 u287 u288 u289 u290 u291 u292 u293 u294 u295 u296 KK hKK hle2 hG2 hK2
    have K2 := K1.trans hK2 (fun _ _ e => e)
    have hO2 := hO1.keep hK2 (fun i e e' => by have := (hO1.at_ i e).1; omega)
    have hz2 := K2.size
    have e4 : (12 : Int) + (cc bs : Int) * 4 + 2 + 2 = ((12 + 4 * cc bs + 4 : Nat) : Int) := by omega
    have e12 : (12 : Int) + (cc bs : Int) * 4 + 2 + 2 + g16 bs (12 + 4 * cc bs + 2) * 4 = ((12 + 4 * cc bs + 4 + 4 * L : Nat) : Int) := by rw [hLi]; omega
    rw [e12, e4]
    refine un_p35 (p := p) (bs := bs) (B := w2.heap.size) (P := 12 + 4 * cc bs + 4) (E := 12 + 4 * cc bs + 4 + 4 * L) (sv := sv) (h := { hdB bs with prof := g16 bs (12 + 4 * cc bs) }) w2 _ _ _ _ _ _ _ _ _ _ _ _ _ _ _ _ _ _ _ _ _ _ _ _ _ _ _ _ _ _ _ _ _ _ _ _ _ _ _ _ _ _ _ _ _ _ _ _ _ _ _ _ _ _ _ _ _ _ _ _ _ _ _ _ _ _ _ _ _ _ _ _ _ _ _ _ _ _ _ _ _ _ _ _ _ _ _ _ _ _ _ _ _ _ _ _ _ _ _ _ _ _ _ _ _ _ _ _ _ _ _ _ _ _ _ _ _ _ _ _ _ _ _ _ _ _ _ _ _ _ _ _ _ _ _ _ _ _ _ _ _ _ _ _ _ _ _ _ _ _ _ _ _ _ _ _ _ _ _ _ _ _ _ _ _ _ _ _ _ _ _ _ _ _ _ _ _ _ _ _ _ _ _ _ _ _ _ _ _ _ _ _ _ _ _ _ _ _ _ _ _ _ _ _ _ _ _ _ _ _ _ _ _ _ _ _ _ _ _ _ _ _ _ _ _ _ _ _ _ _ _ _ _ _ _ _ _ _ _ _ _ _ _ _ _ _ _ _ _ _ _ _ _ _ _ _ _ _ _ _ _ _ _ _ _ _ _ _ _ _ _ _ _ _ _ _ _ _ _ _ _ _ _ _ _ _ _ _ _ _ _ _ _ hKK ?_ ?_ (fun h => z3 (by omega)) (hR.keep K2 (fun i _ hi e => (hp i hi).1 e)) hI (by omega) (by omega) hnm (by omega) hG2 (by omega) (Nat.le_refl _) (fun i hi => ⟨(hp i hi).1, by have := (hp i hi).2; omega⟩) (K2.cell (fun e => hge (.inr (.inl e.symm))) he2)
    · intro m w' hlt hG' hK'
      refine .inr ⟨z2 (by omega) (by omega), m, te2, ve2, { headR bs with prof := g16 bs (12 + 4 * cc bs) }, rfl, by show (srcsR bs).length ≤ 15; omega, rfl, ⟨sv, .slice none 0 0, hG', ?_, XR.nil_ _ _⟩, K2.trans hK' (fun _ _ e => e)⟩
      show Rd w' _ 1 sv (srcsR bs).length (U32 (srcsR bs))
      rw [hsl]
      exact (hO2.keep hK' (fun i e e' => by have := (hO2.at_ i e).1; omega)).rdB.mono (fun i _ hi => .inl hi)
    · intro w' xv ys hEn hxs hG' hds hK'
      obtain ⟨ds, o1, d1⟩ := hds
      refine .inl ⟨{ headR bs with prof := g16 bs (12 + 4 * cc bs), exts := ys }, _, z4 ys (by omega) hxs, rfl, ⟨sv, xv, hG', ?_, ⟨ds, d1.mono (fun i _ hi => .inr hi), o1.rdB.mono (fun i _ (hi : w2.heap.size ≤ i) => .inl (by omega))⟩⟩, K2.trans hK' (fun i hi e => e.elim id (fun e => by omega))⟩
      show Rd w' _ 1 sv (srcsR bs).length (U32 (srcsR bs))
      rw [hsl]
      exact (hO2.keep hK' (fun i e e' => by have := hO2.at_ i e; omega)).rdB.mono (fun i _ hi => .inl hi)
end Go.Proofs.YtdmnflngafbobaaDoor
