/-
  (*rtp.Header).Unmarshal: its head, and the whole of it for a header without extensions. Conditions: those that stand in each theorem.
-/
import Derived.Test.YtdmnflngafbobaaDoorUnP
import Derived.Deep.DeepCutAuto
import Derived.Deep.QuietTactic
import Derived.BigQuiet
namespace Go.Proofs.YtdmnflngafbobaaDoor
open Go.RowKit
set_option linter.unusedVariables false
set_option linter.unusedSimpArgs false
set_option maxRecDepth 100000

/-- What a call of Unmarshal that fails leaves. -/
def UnBad (w : World) (g : Nat) (t : TypeId) (rest : List Value) (post : Ending → World → Prop) (te : TypeId) (ve : Value) : Prop :=
  ∀ (m : Int) (w' : World) (hd : Hd), hd.srcs.length ≤ 15 → hd.exts = [] → UH w' (w.heap.size ≤ ·) g t rest hd → Keep w w' (· = g) → post (.returned (.tuple #[.int .i64 m, .iface te ve])) w'

theorem UH.zero {w : World} {q : Nat → Prop} {g : Nat} {t : TypeId} {rest : List Value} (h : BL w g t (uc hd0 (.slice none 0 0) (.slice none 0 0) rest)) : UH w q g t rest hd0 := ⟨_, _, h, Rd.nil_ _ _ _, XR.nil_ _ _⟩

theorem un_bad4 {bs : List Int} {n c g : Nat} {A : Option Addr} {t : TypeId} {rest : List Value} {post : Ending → World → Prop} {te : TypeId} {ve : Value} (w : World) (hn : n < 4) (hG : BL w g t (uc hd0 (.slice none 0 0) (.slice none 0 0) rest))
    (he : w.cell? ⟨2, 0, none⟩ = some (.iface te ve)) (hpost : UnBad w g t rest post te ve) :
    Calls Tryd.prog 71 #[.pointer (some ⟨g, 0, none⟩), .slice A n c] w post := by
  have HG := hide hG
  have HP := hide hpost
  have hn' : (n : Int) < 4 := by omega
  clear hG hpost
  go_enter Tryd.func71, Tryd.ntmps71
  go_upto_region 2 with fail
  go_quiet (fail)
  go_wp2_with fail
  (try go_ret2)
  exact HP.out _ _ hd0 (by decide) rfl (UH.zero (HG.out.keep ((Keep.refl w Nul).drewN _) id)) (((Keep.refl w _).drewN _))

set_option maxHeartbeats 1600000 in
theorem un_head {p : Nat → Prop} {bs : List Int} {n c b o g : Nat} {t : TypeId} {rest : List Value} {post : Ending → World → Prop} {te : TypeId} {ve : Value} (w : World) (hR : Rd w p 1 (.slice (some ⟨b, o, none⟩) n c) n (B8 bs)) (hI : IsB bs) (h4 : 4 ≤ n) (hnm : n ≤ 2147483647)
    (hpg : ∀ i, p i → i ≠ g) (hG : BL w g t (uc hd0 (.slice none 0 0) (.slice none 0 0) rest)) (he : w.cell? ⟨2, 0, none⟩ = some (.iface te ve)) (hge : g ≠ 2) (hpost : n < 12 + 4 * cc bs → UnBad w g t rest post te ve)
    (h13 : ∀ (wx : World) (sv : Value) (u2 u3 u7 u8 u9 u10 u11 u12 u13 u14 u15 u16 u17 u18 u19 u20 u21 u22 u23 u24 u25 u26 u27 u28 u29 u30 u31 u32 u33 u34 u35 u36 u37 u38 u39 u40 u41 u42 u43 u44 u45 u46 u47 u48 u49 u50 u51 u52 u53 u54 u55 u56 u57 u58 u59 u60 u61 u62 u63 u64 u65 u66 u67 u68 u69 u70 u71 u72 u73 u74 u75 u76 u77 u78 u79 u80 u81 u82 u83 u84 u85 u86 u87 u88 u89 u90 u91 u92 u93 u94 u95 u96 u97 u98 u99 u100 u101 u102 u103 u104 u105 u106 u107 u108 u109 u110 u111 u112 u113 u114 u115 u116 u117 u118 u119 u120 u121 u122 u123 u124 u125 u126 u127 u128 u129 u130 u131 u132 u133 u134 u135 u136 u137 u138 u139 u140 u141 u142 u143 u144 u145 u146 u147 u148 u149 u150 u151 u152 u153 u154 u155 u156 u157 u158 u159 u160 u161 u162 u163 u164 u165 u166 u167 u168 u169 u170 u171 u172 u173 u174 u175 u176 u177 u178 u179 u180 u181 u182 u183 u184 u185 u186 u187 u188 u189 u190 u191 u192 u193 u194 u195 u196 u197 u198 u199 u200 u201 u202 u203 u204 u205 u206 u207 u208 u209 u210 u211 u212 u213 u214 u215 u216 u217 u218 u219 u220 u221 u222 u223 u224 u225 u226 u227 u228 u229 u230 u231 u232 u233 u234 u235 u236 u237 u238 u239 u240 u241 u242 u243 u244 u245 u246 u247 u248 u249 u250 u251 u252 u253 u254 u255 u256 u257 u258 u259 u260 u261 u262 u263 u264 u265 u266 u267 u268 u269 u270 u271 u272 u273 u274 u275 u276 u277 u278 u279 u280 u281 u282 u283 u284 u285 u286 u287 u288 u289 u290 u291 u292 u293 u294 u295 u296 : Value), 12 + 4 * cc bs ≤ n → BL wx g t (uc (hdA bs) sv (.slice none 0 0) rest) → Own wx w.heap.size 23 1 sv (cc bs) (U32 (List.replicate (cc bs) 0)) → Keep w wx (· = g) →
      Part Tryd.prog Tryd.f71 13 (bodyPost Tryd.prog Tryd.f71 post) ⟨List.toArray (.pointer (some ⟨g, 0, none⟩) :: .slice (some ⟨b, o, none⟩) n c :: u2 :: u3 :: .int .i64 (12 + (cc bs : Int) * 4) :: .nilIface :: .int .i64 (cc bs : Int) :: u7 :: u8 :: u9 :: u10 :: u11 :: u12 :: u13 :: u14 :: u15 :: u16 :: u17 :: u18 :: u19 :: u20 :: u21 :: u22 :: u23 :: u24 :: u25 :: u26 :: u27 :: u28 :: u29 :: u30 :: u31 :: u32 :: u33 :: u34 :: u35 :: u36 :: u37 :: u38 :: u39 :: u40 :: u41 :: u42 :: u43 :: u44 :: u45 :: u46 :: u47 :: u48 :: u49 :: u50 :: u51 :: u52 :: u53 :: u54 :: u55 :: u56 :: u57 :: u58 :: u59 :: u60 :: u61 :: u62 :: u63 :: u64 :: u65 :: u66 :: u67 :: u68 :: u69 :: u70 :: u71 :: u72 :: u73 :: u74 :: u75 :: u76 :: u77 :: u78 :: u79 :: u80 :: u81 :: u82 :: u83 :: u84 :: u85 :: u86 :: u87 :: u88 :: u89 :: u90 :: u91 :: u92 :: u93 :: u94 :: u95 :: u96 :: u97 :: u98 :: u99 :: u100 :: u101 :: u102 :: u103 :: u104 :: u105 :: u106 :: u107 :: u108 :: u109 :: u110 :: u111 :: u112 :: u113 :: u114 :: u115 :: u116 :: u117 :: u118 :: u119 :: u120 :: u121 :: u122 :: u123 :: u124 :: u125 :: u126 :: u127 :: u128 :: u129 :: u130 :: u131 :: u132 :: u133 :: u134 :: u135 :: u136 :: u137 :: u138 :: u139 :: u140 :: u141 :: u142 :: u143 :: u144 :: u145 :: u146 :: u147 :: u148 :: u149 :: u150 :: u151 :: u152 :: u153 :: u154 :: u155 :: u156 :: u157 :: u158 :: u159 :: u160 :: u161 :: u162 :: u163 :: u164 :: u165 :: u166 :: u167 :: u168 :: u169 :: u170 :: u171 :: u172 :: u173 :: u174 :: u175 :: u176 :: u177 :: u178 :: u179 :: u180 :: u181 :: u182 :: u183 :: u184 :: u185 :: u186 :: u187 :: u188 :: u189 :: u190 :: u191 :: u192 :: u193 :: u194 :: u195 :: u196 :: u197 :: u198 :: u199 :: u200 :: u201 :: u202 :: u203 :: u204 :: u205 :: u206 :: u207 :: u208 :: u209 :: u210 :: u211 :: u212 :: u213 :: u214 :: u215 :: u216 :: u217 :: u218 :: u219 :: u220 :: u221 :: u222 :: u223 :: u224 :: u225 :: u226 :: u227 :: u228 :: u229 :: u230 :: u231 :: u232 :: u233 :: u234 :: u235 :: u236 :: u237 :: u238 :: u239 :: u240 :: u241 :: u242 :: u243 :: u244 :: u245 :: u246 :: u247 :: u248 :: u249 :: u250 :: u251 :: u252 :: u253 :: u254 :: u255 :: u256 :: u257 :: u258 :: u259 :: u260 :: u261 :: u262 :: u263 :: u264 :: u265 :: u266 :: u267 :: u268 :: u269 :: u270 :: u271 :: u272 :: u273 :: u274 :: u275 :: u276 :: u277 :: u278 :: u279 :: u280 :: u281 :: u282 :: u283 :: u284 :: u285 :: u286 :: u287 :: u288 :: u289 :: u290 :: u291 :: u292 :: u293 :: u294 :: u295 :: u296 :: []), []⟩ wx) :
    Calls Tryd.prog 71 #[.pointer (some ⟨g, 0, none⟩), .slice (some ⟨b, o, none⟩) n c] w post := by
  have HP := hide hpost
  have HPG := hide hpg
  have H13 := hide h13
  have HG := hide hG
  have HR := hide hR
  have HE := hide he
  have r0 := g8_rng hI 0
  have c0 := rd_at hR 0 (by omega)
  rw [Nat.add_zero] at c0
  obtain ⟨_, _, _, hvv, hnc, hcm, hpb, hbw, hcc⟩ := hR.lit (by omega)
  clear hcc
  injection hvv with e1 _ e3
  injection e1 with e1
  injection e1 with e1 e2
  subst e1 e2 e3
  have hbg : ¬ b = g := hpg b hpb
  have hgb : ¬ g = b := fun e => hbg e.symm
  have hgw := hG.lt
  have x0 := hG.cell 0 (v := .int .u8 0) rfl
  have x1 := hG.cell 1 (v := .bool false) rfl
  have x2 := hG.cell 2 (v := .bool false) rfl
  have fg := fun i => HG.out.free i
  have q0 := bit_v (g8 bs 0) r0
  have q1 := bit_1 (g8 bs 0 / 32) (by omega)
  have q2 := bit_1 (g8 bs 0 / 16) (by omega)
  have hn4 : ¬ (n : Int) < 4 := by omega
  clear hpost hpg h13 hG hR he
  go_enter Tryd.func71, Tryd.ntmps71
  go_upto_region 6 with fail
  generalize hw1 : World.setCell (World.setCell (World.setCell w _ _) _ _) _ _ = w1
  have em1 : decide (0 < g8 bs 0 / 32 % 2) = decide (g8 bs 0 / 32 % 2 = 1) := decide_eq_decide.2 (by omega)
  have em2 : decide (0 < g8 bs 0 / 16 % 2) = decide (g8 bs 0 / 16 % 2 = 1) := decide_eq_decide.2 (by omega)
  have G1 := hide (show BL w1 g t (uc { hdA bs with srcs := [] } (.slice none 0 0) (.slice none 0 0) rest) by
    subst hw1
    have h := ((HG.out.set 0 (.int .u8 (g8 bs 0 / 64))).set 1 (.bool (decide (0 < g8 bs 0 / 32 % 2)))).set 2 (.bool (decide (0 < g8 bs 0 / 16 % 2)))
    have el : (((uc hd0 (.slice none 0 0) (.slice none 0 0) rest).set 0 (.int .u8 (g8 bs 0 / 64))).set 1 (.bool (decide (0 < g8 bs 0 / 32 % 2)))).set 2 (.bool (decide (0 < g8 bs 0 / 16 % 2))) = uc { hdA bs with srcs := [] } (.slice none 0 0) (.slice none 0 0) rest := by
      simp only [uc, hd0, hdA, List.set_cons_zero, List.set_cons_succ, em1, em2]
    rw [el] at h
    exact h)
  have K1 := hide (show Keep w w1 (· = g) by subst hw1; exact (((Keep.refl w (· = g)).setg _ (fun _ => rfl) _).setg _ (fun _ => rfl) _).setg _ (fun _ => rfl) _)
  have HZ1 := hide (show w1.heap.size = w.heap.size by subst hw1; simp [World.setCell])
  clear hw1 em1 em2 q0 q1 q2 x0 x1 x2 fg c0 hgw
  have R1 := hide (HR.out.keep K1.out (fun i hi hp => HPG.out i hp))
  have c0 := rd_at R1.out 0 (by omega)
  rw [Nat.add_zero] at c0
  have x8 := G1.out.cell 8 (v := .slice none 0 0) rfl
  have fg := fun i => G1.out.free i
  have hgw := G1.out.lt
  have q15 := bit_15 (g8 bs 0) r0
  obtain ⟨k, hk⟩ : ∃ k, k = cc bs := ⟨_, rfl⟩
  have hki : g8 bs 0 % 16 = (k : Int) := by rw [hk]; unfold cc; omega
  have hk15 : k ≤ 15 := by omega
  have HKC := hide hk
  rw [← hk] at H13 HP
  clear hk
  go_upto_region 7 with fail
  have HKI := hide hki
  clear hki q15 c0
  go_upto_if 59 with fail
  go_cut [4] (fun s4 wx => s4 = .int .i64 0 ∧ ∃ sv, BL wx g t (uc (hdA bs) sv (.slice none 0 0) rest) ∧ Own wx w.heap.size 23 1 sv k (U32 (List.replicate k 0)) ∧ Keep w wx (· = g))
  case first =>
    by_cases h0 : k = 0
    · subst h0
      go_wp2_with fail
      go_meet
      refine ⟨rfl, .slice none 0 0, ?_, Own.nil_ _ _ _ _, K1.out.setg _ (fun _ => rfl) _⟩
      have := G1.out.set 8 (.slice none 0 0)
      have e : hdA bs = { hdA bs with srcs := [] } := by unfold hdA; rw [← HKC.out]; rfl
      rw [e]
      exact this
    · have hkp : (0 : Int) < (k : Int) := by omega
      have mkU := run_mk etU k (by omega) (by omega)
      simp only [Nat.mul_one] at mkU
      go_wp2_with fail
      go_meet
      refine ⟨rfl, .slice (some ⟨w1.heap.size, 0, none⟩) k k, ?_, ?_, ?_⟩
      · exact (G1.out.set 8 (.slice (some ⟨w1.heap.size, 0, none⟩) k k)).alloc _
      · have hb : Blk ((w1.setCell ⟨g, 8, none⟩ (.slice (some ⟨w1.heap.size, 0, none⟩) k k)).alloc (.cells (madeCells #[.int .u32 0] k) 23)) w1.heap.size 23 (madeCells #[.int .u32 0] k) := Blk.new' (by simp [World.setCell])
        have ho := Own.of_blk (B := w.heap.size) (n := k) (cap := k) (sz := 1) hb (Nat.le_of_eq HZ1.out.symm) (Nat.le_refl _) (by simp only [maxLen]; omega) (by simp [size_madeCells])
        have e : ((madeCells #[Value.int .u32 0] k).toList.take (k * 1)) = U32 (List.replicate k 0) := by rw [made_one]; simp [U32]
        rw [e] at ho
        exact ho
      · exact (K1.out.setg _ (fun _ => rfl) _).alloc _
  case rest =>
  obtain ⟨w2, hw2⟩ : ∃ w2, w2 = wc := ⟨_, rfl⟩
  subst hw2
  obtain ⟨rfl, sv, g2, o2, k2⟩ := hcut
  have G2 := hide g2
  have O2 := hide o2
  have K2 := hide k2
  have hgw2 := g2.lt
  clear g2 o2 k2 x8 fg G1 hgw
  by_cases hlt : n < 12 + 4 * k
  · have he2 := K2.out.cell (fun e => hge e.symm) HE.out
    have hlt' : (n : Int) < 12 + (k : Int) * 4 := by omega
    go_upto_region 12 with fail
    go_quiet (fail)
    go_wp2_with fail
    (try go_ret2)
    refine HP.out hlt _ _ (hdA bs) ?_ rfl ⟨sv, .slice none 0 0, G2.out.keep ((Keep.refl w2 Nul).drewN _) id, ?_, XR.nil_ _ _⟩ (K2.out.drewN _)
    · show (List.replicate (cc bs) 0).length ≤ 15
      rw [List.length_replicate, ← HKC.out]; exact hk15
    · show Rd _ _ 1 sv (List.replicate (cc bs) 0).length (U32 (List.replicate (cc bs) 0))
      rw [List.length_replicate, ← HKC.out]
      exact (O2.out.keep0 ((Keep.refl w2 Nul).drewN _)).rdB
  · have hlt' : ¬ (n : Int) < 12 + (k : Int) * 4 := by omega

    go_upto_region 13 with fail
    exact part_use (H13.out w2 sv _ _ _ _ _ _ _ _ _ _ _ _ _ _ _ _ _ _ _ _ _ _ _ _ _ _ _ _ _ _ _ _ _ _ _ _ _ _ _ _ _ _ _ _ _ _ _ _ _ _ _ _ _ _ _ _ _ _ _ _ _ _ _ _ _ _ _ _ _ _ _ _ _ _ _ _ _ _ _ _ _ _ _ _ _ _ _ _ _ _ _ _ _ _ _ _ _ _ _ _ _ _ _ _ _ _ _ _ _ _ _ _ _ _ _ _ _ _ _ _ _ _ _ _ _ _ _ _ _ _ _ _ _ _ _ _ _ _ _ _ _ _ _ _ _ _ _ _ _ _ _ _ _ _ _ _ _ _ _ _ _ _ _ _ _ _ _ _ _ _ _ _ _ _ _ _ _ _ _ _ _ _ _ _ _ _ _ _ _ _ _ _ _ _ _ _ _ _ _ _ _ _ _ _ _ _ _ _ _ _ _ _ _ _ _ _ _ _ _ _ _ _ _ _ _ _ _ _ _ _ _ _ _ _ _ _ _ _ _ _ _ _ _ _ _ _ _ _ _ _ _ _ _ _ _ _ _ _ _ _ _ _ _ _ _ _ _ _ _ _ _ _ _ _ _ _ _ _ _ _ _ _ _ _ _ _ _ _ _ _ _ _ (by omega) G2.out O2.out K2.out) rfl rfl (by assumption)
end Go.Proofs.YtdmnflngafbobaaDoor
