/-
  (*rtp.Header).Unmarshal: what stands before its extensions. Conditions: those that stand in each theorem.
-/
import Derived.Test.YtdmnflngafbobaaDoorGOut
import Derived.Test.YtdmnflngafbobaaDoorBe
import Derived.Test.YtdmnflngafbobaaDoorCopy
import Derived.Test.YtdmnflngafbobaaDoorClone
import Derived.Test.YtdmnflngafbobaaDoorNav
import Derived.Deep.DeepCutAuto
import Derived.Deep.QuietTactic
import Derived.BigQuiet
namespace Go.Proofs.YtdmnflngafbobaaDoor
open Go.RowKit
set_option linter.unusedVariables false
set_option linter.unusedSimpArgs false
set_option maxRecDepth 100000

/-- The cells of a header of the package at the head of a block. -/
def uc (h : Hd) (sv xv : Value) (rest : List Value) : List Value :=
  .int .u8 h.v :: .bool h.pad :: .bool h.ext :: .bool h.mark :: .int .u8 h.ty :: .int .u16 h.seq :: .int .u32 h.time :: .int .u32 h.ssrc :: sv :: .int .u16 h.prof :: xv :: .int .u8 h.padn :: .int .i64 0 :: rest
def BL (w : World) (g : Nat) (t : TypeId) (l : List Value) : Prop := Blk w g t l.toArray
section
variable {w w' : World} {g : Nat} {t : TypeId} {l : List Value} {S : Nat → Prop}
theorem BL.cell (h : BL w g t l) (i : Nat) {v : Value} (hv : l[i]? = some v) : w.cell? ⟨g, i, none⟩ = some v := Blk.cell h i (by simpa using hv)
theorem BL.free (h : BL w g t l) (i : Nat) : w.frozen? ⟨g, i, none⟩ = false := Blk.free h i
theorem BL.lt (h : BL w g t l) : g < w.heap.size := Blk.lt h
theorem BL.keep (h : BL w g t l) (k : Keep w w' S) (hg : ¬ S g) : BL w' g t l := Blk.keep h k hg
theorem BL.alloc (h : BL w g t l) (o : Obj) : BL (w.alloc o) g t l := Blk.alloc h o
theorem BL.drew (h : BL w g t l) : BL w.drew g t l := h
theorem BL.set (h : BL w g t l) (i : Nat) (u : Value) : BL (w.setCell ⟨g, i, none⟩ u) g t (l.set i u) := by
  have := Blk.set_ h i u
  unfold BL
  rwa [List.setIfInBounds_toArray] at this
end
def hd0 : Hd := ⟨0, false, false, false, 0, 0, 0, 0, [], 0, [], 0⟩
/-- A header of the package as the head of block g, what it holds in blocks of which q holds. -/
def UH (w : World) (q : Nat → Prop) (g : Nat) (t : TypeId) (rest : List Value) (h : Hd) : Prop :=
  ∃ sv xv, BL w g t (uc h sv xv rest) ∧ Rd w q 1 sv h.srcs.length (U32 h.srcs) ∧ XR w q xv h.exts
theorem XR.nil_ (w : World) (p : Nat → Prop) : XR w p (.slice none 0 0) [] := ⟨[], ⟨rfl, by simp⟩, Rd.nil_ _ _ _⟩

theorem g8_of {bs : List Int} {i : Nat} (h : i < bs.length) : bs[i]? = some (g8 bs i) := by
  unfold g8
  rw [List.getD_eq_getElem?_getD, List.getElem?_eq_getElem h]
  rfl
theorem g8_rng {bs : List Int} (hI : IsB bs) (i : Nat) : 0 ≤ g8 bs i ∧ g8 bs i < 256 := by
  by_cases h : i < bs.length
  · have := List.mem_of_getElem? (g8_of h)
    exact hI _ this
  · unfold g8
    rw [List.getD_eq_getElem?_getD, List.getElem?_eq_none (by omega)]
    exact ⟨by simp, by simp⟩
/-- beUint16 of a piece of bytes. -/
theorem be16_at {p : Nat → Prop} {bs : List Int} {b o c n : Nat} (w : World) (hR : Rd w p 1 (.slice (some ⟨b, o, none⟩) n c) n (B8 bs)) (hI : IsB bs) (i : Nat) {k c' : Nat} (hi : i + 2 ≤ n) (hk : 2 ≤ k) :
    Calls Tryd.prog 102 #[.slice (some ⟨b, o + i, none⟩) k c'] w fun e w' => e = .returned (.int .u16 (g16 bs i)) ∧ w.drew = w' := by
  have hl : bs.length = n := by have := hR.len; rwa [B8_len] at this
  obtain ⟨b', o', c'', hv, _, _, _, _, hc⟩ := hR.lit (by omega)
  injection hv with e1 _ _
  injection e1 with e1
  injection e1 with e1 e2
  subst e1 e2
  have h0 := hc i _ (B8_get (g8_of (bs := bs) (i := i) (by omega)))
  have h1 := hc (i + 1) _ (B8_get (g8_of (bs := bs) (i := i + 1) (by omega)))
  rw [← Nat.add_assoc] at h1
  exact be16 b (o + i) k c' _ _ w hk (g8_rng hI i) (g8_rng hI (i + 1)) h0 h1
theorem be32_at {p : Nat → Prop} {bs : List Int} {b o c n : Nat} (w : World) (hR : Rd w p 1 (.slice (some ⟨b, o, none⟩) n c) n (B8 bs)) (hI : IsB bs) (i : Nat) {k c' : Nat} (hi : i + 4 ≤ n) (hk : 4 ≤ k) :
    Calls Tryd.prog 103 #[.slice (some ⟨b, o + i, none⟩) k c'] w fun e w' => e = .returned (.int .u32 (g32 bs i)) ∧ w.drew = w' := by
  have hl : bs.length = n := by have := hR.len; rwa [B8_len] at this
  obtain ⟨b', o', c'', hv, _, _, _, _, hc⟩ := hR.lit (by omega)
  injection hv with e1 _ _
  injection e1 with e1
  injection e1 with e1 e2
  subst e1 e2
  have h0 := hc i _ (B8_get (g8_of (bs := bs) (i := i) (by omega)))
  have h1 := hc (i + 1) _ (B8_get (g8_of (bs := bs) (i := i + 1) (by omega)))
  have h2 := hc (i + 2) _ (B8_get (g8_of (bs := bs) (i := i + 2) (by omega)))
  have h3 := hc (i + 3) _ (B8_get (g8_of (bs := bs) (i := i + 3) (by omega)))
  rw [← Nat.add_assoc] at h1 h2 h3
  have e : g32 bs i = g8 bs i * 16777216 + g8 bs (i + 1) * 65536 + g8 bs (i + 2) * 256 + g8 bs (i + 3) := by
    unfold g32 g16
    rw [show i + 2 + 1 = i + 3 by omega]
    omega
  rw [e]
  exact be32 b (o + i) k c' _ _ _ _ w hk (g8_rng hI i) (g8_rng hI (i + 1)) (g8_rng hI (i + 2)) (g8_rng hI (i + 3)) h0 h1 h2 h3
/-- One byte of a piece of bytes. -/
theorem rd_at {w : World} {p : Nat → Prop} {bs : List Int} {b o c n : Nat} (hR : Rd w p 1 (.slice (some ⟨b, o, none⟩) n c) n (B8 bs)) (i : Nat) (hi : i < n) : w.cell? ⟨b, o + i, none⟩ = some (.int .u8 (g8 bs i)) := by
  have hl : bs.length = n := by have := hR.len; rwa [B8_len] at this
  obtain ⟨b', o', c'', hv, _, _, _, _, hc⟩ := hR.lit (by omega)
  injection hv with e1 _ _
  injection e1 with e1
  injection e1 with e1 e2
  subst e1 e2
  exact hc i _ (B8_get (g8_of (bs := bs) (i := i) (by omega)))

/-- The header ahead of its fields from the second byte on. -/
def hdA (bs : List Int) : Hd := { hd0 with v := g8 bs 0 / 64, pad := decide (g8 bs 0 / 32 % 2 = 1), ext := decide (g8 bs 0 / 16 % 2 = 1), srcs := List.replicate (cc bs) 0 }
def hdB (bs : List Int) : Hd := { hdA bs with mark := decide (g8 bs 1 / 128 = 1), ty := g8 bs 1 % 128, seq := g16 bs 2, time := g32 bs 4, ssrc := g32 bs 8 }
end Go.Proofs.YtdmnflngafbobaaDoor
namespace Go.Proofs.YtdmnflngafbobaaDoor
open Go.RowKit
set_option linter.unusedVariables false
set_option linter.unusedSimpArgs false
set_option maxRecDepth 100000

/-- One element of the call's own slice turned. -/
theorem Own.set1 {w : World} {B : Nat} {e : TypeId} {g c n : Nat} {xs : List Value} (h : Own w B e 1 (.slice (some ⟨g, 0, none⟩) n c) n xs) (i : Nat) (u : Value) (hi : i < n) :
    Own (w.setCell ⟨g, i, none⟩ u) B e 1 (.slice (some ⟨g, 0, none⟩) n c) n (xs.set i u) ∧ (∃ v, w.cell? ⟨g, i, none⟩ = some v) ∧ w.frozen? ⟨g, i, none⟩ = false := by
  have hl := h.1
  rcases h.2 with ⟨h0, _⟩ | ⟨g', cap, cur, fr, hv, hB, hg, hnc, hcm, hcs, hfr, htk⟩
  · cases h0
  · injection hv with e1 e2 e3
    injection e1 with e1
    injection e1 with e1
    subst e1 e3
    refine ⟨⟨by simpa using hl, .inr ⟨g, c, cur.setIfInBounds i u, fr, rfl, hB, ?_, hnc, hcm, by simpa using hcs, by simpa using hfr, ?_⟩⟩, ?_, ?_⟩
    · simp [World.setCell, Array.getElem?_modify, hg]
    · rw [Array.toList_setIfInBounds, List.take_set, htk]
    · exact ⟨cur[i]'(by omega), by rw [cell_of_row w g i cur e fr hg]; exact Array.getElem?_eq_getElem _⟩
    · have h := hfr i (by omega)
      obtain ⟨lo, hi'⟩ := fr
      unfold World.frozen?
      rw [hg]
      simp only [Bool.and_eq_false_iff, decide_eq_false_iff_not] at h ⊢
      omega
/-- The sources of a header. -/
def srcsR (bs : List Int) : List Int := (List.range (cc bs)).map fun i => g32 bs (12 + 4 * i)
theorem srcsR_len (bs : List Int) : (srcsR bs).length = cc bs := by simp [srcsR]
theorem srcs_step (bs : List Int) (i k : Nat) (hk : k = cc bs) (hi : i < k) : (U32 ((srcsR bs).take i ++ List.replicate (k - i) 0)).set i (.int .u32 (g32 bs (12 + 4 * i))) = U32 ((srcsR bs).take (i + 1) ++ List.replicate (k - (i + 1)) 0) := by
  have hl := srcsR_len bs
  have hs : (srcsR bs)[i]? = some (g32 bs (12 + 4 * i)) := by
    unfold srcsR
    rw [List.getElem?_map, List.getElem?_range (by omega)]
    rfl
  obtain ⟨hlt, e⟩ := List.getElem?_eq_some_iff.1 hs
  have ht : (((srcsR bs).take i).map (Value.int .u32)).length = i := by simp; omega
  unfold U32
  rw [List.take_succ_eq_append_getElem hlt, e, show k - i = (k - (i + 1)) + 1 by omega, List.replicate_succ]
  simp only [List.map_append, List.map_cons]
  rw [List.set_append_right _ _ (by rw [ht]; exact Nat.le_refl _), ht, Nat.sub_self, List.set_cons_zero]
  simp

theorem bit_v (x : Int) (h : 0 ≤ x ∧ x < 256) : bits .and .u8 (x / 64) 3 = x / 64 := by
  have := and8 2 (x / 64) 3 (by omega) (by omega) (by decide) (by omega)
  rw [show ((3 : Nat) : Int) = 3 from rfl] at this
  rw [this]; omega
theorem bit_1 (x : Int) (h : 0 ≤ x ∧ x < 256) : bits .and .u8 x 1 = x % 2 := by
  have := and8 1 x 1 (by omega) (by omega) (by decide) (by omega)
  rw [show ((1 : Nat) : Int) = 1 from rfl] at this
  rw [this]; omega
theorem bit_15 (x : Int) (h : 0 ≤ x ∧ x < 256) : bits .and .u8 x 15 = x % 16 := by
  have := and8 4 x 15 (by omega) (by omega) (by decide) (by omega)
  rw [show ((15 : Nat) : Int) = 15 from rfl] at this
  rw [this]; omega
theorem bit_127 (x : Int) (h : 0 ≤ x ∧ x < 256) : bits .and .u8 x 127 = x % 128 := by
  have := and8 7 x 127 (by omega) (by omega) (by decide) (by omega)
  rw [show ((127 : Nat) : Int) = 127 from rfl] at this
  rw [this]; omega

set_option maxHeartbeats 1600000 in
theorem un_p13 {p : Nat → Prop} {bs : List Int} {n c b o g k B : Nat} {t : TypeId} {rest : List Value} {sv : Value} {post : Ending → World → Prop} (w : World) (u2 u3 u7 u8 u9 u10 u11 u12 u13 u14 u15 u16 u17 u18 u19 u20 u21 u22 u23 u24 u25 u26 u27 u28 u29 u30 u31 u32 u33 u34 u35 u36 u37 u38 u39 u40 u41 u42 u43 u44 u45 u46 u47 u48 u49 u50 u51 u52 u53 u54 u55 u56 u57 u58 u59 u60 u61 u62 u63 u64 u65 u66 u67 u68 u69 u70 u71 u72 u73 u74 u75 u76 u77 u78 u79 u80 u81 u82 u83 u84 u85 u86 u87 u88 u89 u90 u91 u92 u93 u94 u95 u96 u97 u98 u99 u100 u101 u102 u103 u104 u105 u106 u107 u108 u109 u110 u111 u112 u113 u114 u115 u116 u117 u118 u119 u120 u121 u122 u123 u124 u125 u126 u127 u128 u129 u130 u131 u132 u133 u134 u135 u136 u137 u138 u139 u140 u141 u142 u143 u144 u145 u146 u147 u148 u149 u150 u151 u152 u153 u154 u155 u156 u157 u158 u159 u160 u161 u162 u163 u164 u165 u166 u167 u168 u169 u170 u171 u172 u173 u174 u175 u176 u177 u178 u179 u180 u181 u182 u183 u184 u185 u186 u187 u188 u189 u190 u191 u192 u193 u194 u195 u196 u197 u198 u199 u200 u201 u202 u203 u204 u205 u206 u207 u208 u209 u210 u211 u212 u213 u214 u215 u216 u217 u218 u219 u220 u221 u222 u223 u224 u225 u226 u227 u228 u229 u230 u231 u232 u233 u234 u235 u236 u237 u238 u239 u240 u241 u242 u243 u244 u245 u246 u247 u248 u249 u250 u251 u252 u253 u254 u255 u256 u257 u258 u259 u260 u261 u262 u263 u264 u265 u266 u267 u268 u269 u270 u271 u272 u273 u274 u275 u276 u277 u278 u279 u280 u281 u282 u283 u284 u285 u286 u287 u288 u289 u290 u291 u292 u293 u294 u295 u296 : Value)
    (hpost : ∀ w', UH w' (B ≤ ·) g t rest (headR bs) → Keep w w' (fun i => i = g ∨ sv.ownBlock = some i) → post (.returned (.tuple #[.int .i64 (12 + (k : Int) * 4), Value.nilIface])) w')
    (hR : Rd w p 1 (.slice (some ⟨b, o, none⟩) n c) n (B8 bs)) (hI : IsB bs) (hk : k = cc bs) (hn : 12 + 4 * k ≤ n) (hnm : n ≤ 2147483647) (hx : g8 bs 0 / 16 % 2 ≠ 1)
    (hG : BL w g t (uc (hdA bs) sv (.slice none 0 0) rest)) (hO : Own w B 23 1 sv k (U32 (List.replicate k 0))) (hsg : sv.ownBlock ≠ some g) (hpg : ∀ i, p i → i ≠ g ∧ sv.ownBlock ≠ some i) :
    Part Tryd.prog Tryd.f71 13 (bodyPost Tryd.prog Tryd.f71 post) ⟨List.toArray (.pointer (some ⟨g, 0, none⟩) :: .slice (some ⟨b, o, none⟩) n c :: u2 :: u3 :: .int .i64 (12 + (k : Int) * 4) :: .nilIface :: .int .i64 (k : Int) :: u7 :: u8 :: u9 :: u10 :: u11 :: u12 :: u13 :: u14 :: u15 :: u16 :: u17 :: u18 :: u19 :: u20 :: u21 :: u22 :: u23 :: u24 :: u25 :: u26 :: u27 :: u28 :: u29 :: u30 :: u31 :: u32 :: u33 :: u34 :: u35 :: u36 :: u37 :: u38 :: u39 :: u40 :: u41 :: u42 :: u43 :: u44 :: u45 :: u46 :: u47 :: u48 :: u49 :: u50 :: u51 :: u52 :: u53 :: u54 :: u55 :: u56 :: u57 :: u58 :: u59 :: u60 :: u61 :: u62 :: u63 :: u64 :: u65 :: u66 :: u67 :: u68 :: u69 :: u70 :: u71 :: u72 :: u73 :: u74 :: u75 :: u76 :: u77 :: u78 :: u79 :: u80 :: u81 :: u82 :: u83 :: u84 :: u85 :: u86 :: u87 :: u88 :: u89 :: u90 :: u91 :: u92 :: u93 :: u94 :: u95 :: u96 :: u97 :: u98 :: u99 :: u100 :: u101 :: u102 :: u103 :: u104 :: u105 :: u106 :: u107 :: u108 :: u109 :: u110 :: u111 :: u112 :: u113 :: u114 :: u115 :: u116 :: u117 :: u118 :: u119 :: u120 :: u121 :: u122 :: u123 :: u124 :: u125 :: u126 :: u127 :: u128 :: u129 :: u130 :: u131 :: u132 :: u133 :: u134 :: u135 :: u136 :: u137 :: u138 :: u139 :: u140 :: u141 :: u142 :: u143 :: u144 :: u145 :: u146 :: u147 :: u148 :: u149 :: u150 :: u151 :: u152 :: u153 :: u154 :: u155 :: u156 :: u157 :: u158 :: u159 :: u160 :: u161 :: u162 :: u163 :: u164 :: u165 :: u166 :: u167 :: u168 :: u169 :: u170 :: u171 :: u172 :: u173 :: u174 :: u175 :: u176 :: u177 :: u178 :: u179 :: u180 :: u181 :: u182 :: u183 :: u184 :: u185 :: u186 :: u187 :: u188 :: u189 :: u190 :: u191 :: u192 :: u193 :: u194 :: u195 :: u196 :: u197 :: u198 :: u199 :: u200 :: u201 :: u202 :: u203 :: u204 :: u205 :: u206 :: u207 :: u208 :: u209 :: u210 :: u211 :: u212 :: u213 :: u214 :: u215 :: u216 :: u217 :: u218 :: u219 :: u220 :: u221 :: u222 :: u223 :: u224 :: u225 :: u226 :: u227 :: u228 :: u229 :: u230 :: u231 :: u232 :: u233 :: u234 :: u235 :: u236 :: u237 :: u238 :: u239 :: u240 :: u241 :: u242 :: u243 :: u244 :: u245 :: u246 :: u247 :: u248 :: u249 :: u250 :: u251 :: u252 :: u253 :: u254 :: u255 :: u256 :: u257 :: u258 :: u259 :: u260 :: u261 :: u262 :: u263 :: u264 :: u265 :: u266 :: u267 :: u268 :: u269 :: u270 :: u271 :: u272 :: u273 :: u274 :: u275 :: u276 :: u277 :: u278 :: u279 :: u280 :: u281 :: u282 :: u283 :: u284 :: u285 :: u286 :: u287 :: u288 :: u289 :: u290 :: u291 :: u292 :: u293 :: u294 :: u295 :: u296 :: []), []⟩ w := by
  have HP := hide hpost
  have HPG := hide hpg
  have HI := hide hI
  have HK := hide hk
  have HG := hide hG
  have HO := hide hO
  have HR := hide hR
  have r1 := g8_rng hI 1
  have c1 := rd_at hR 1 (by omega)
  obtain ⟨_, _, _, hvv, hnc, hcm, hpb, hbw, hcc⟩ := hR.lit (by omega)
  clear hcc
  injection hvv with e1 _ e3
  injection e1 with e1
  injection e1 with e1 e2
  subst e1 e2 e3
  have hbg : ¬ b = g := (hpg b hpb).1
  have hgb : ¬ g = b := fun e => hbg e.symm
  have hbs : sv.ownBlock ≠ some b := (hpg b hpb).2
  have HBS := hide hbs
  have HSG := hide hsg
  have hgw := hG.lt
  have x3 := hG.cell 3 (v := .bool false) rfl
  have x4 := hG.cell 4 (v := .int .u8 0) rfl
  have fg := fun i => HG.out.free i
  have hk15 : k ≤ 15 := by have := g8_rng hI 0; rw [hk]; unfold cc; omega
  have q1 := bit_1 (g8 bs 1 / 128) (by omega)
  have q2 := bit_127 (g8 bs 1) r1
  clear hpost hpg hI hk hG hO hR hsg hbs
  refine part_open (fun c hc K hK => ?_)
  conv at hc => rhs; whnf
  subst hc
  dsimp only [xOf, yOf] at hK ⊢
  go_upto_region 16 with fail
  generalize hw1 : World.setCell (World.setCell w _ _) _ _ = w1
  have em : decide (0 < g8 bs 1 / 128 % 2) = decide (g8 bs 1 / 128 = 1) := decide_eq_decide.2 (by omega)
  have G1 := hide (show BL w1 g t (uc { hdA bs with mark := decide (g8 bs 1 / 128 = 1), ty := g8 bs 1 % 128 } sv (.slice none 0 0) rest) by subst hw1; rw [← em]; exact (HG.out.set 3 _).set 4 _)
  have K1 := hide (show Keep w w1 (· = g) by subst hw1; exact ((Keep.refl w (· = g)).setg _ (fun _ => rfl) _).setg _ (fun _ => rfl) _)
  clear hw1 em q1 q2 x3 x4 fg c1 r1 hgw
  have R1 := hide (HR.out.keep K1.out (fun i hi hp => (HPG.out i hp).1))
  have x5 := G1.out.cell 5 (v := .int .u16 0) rfl
  have fg := fun i => G1.out.free i
  have hgw := G1.out.lt
  go_wp2_with fail
  refine (be16_at w1 R1.out HI.out 2 (by omega) (by decide)).mono ?_
  rintro e w2 ⟨rfl, rfl⟩
  go_upto_region 17 with fail
  generalize hw2 : World.drew (World.setCell w1 _ _) = w2
  have G2 := hide (show BL w2 g t (uc { hdA bs with mark := decide (g8 bs 1 / 128 = 1), ty := g8 bs 1 % 128, seq := g16 bs 2 } sv (.slice none 0 0) rest) by subst hw2; exact (G1.out.set 5 _).drew)
  have K2 := hide (show Keep w w2 (· = g) by subst hw2; exact (K1.out.setg _ (fun _ => rfl) _).drew)
  clear hw2 x5 fg hgw
  have R2 := hide (HR.out.keep K2.out (fun i hi hp => (HPG.out i hp).1))
  have x6 := G2.out.cell 6 (v := .int .u32 0) rfl
  have fg := fun i => G2.out.free i
  have hgw := G2.out.lt
  go_wp2_with fail
  refine (be32_at w2 R2.out HI.out 4 (by omega) (by decide)).mono ?_
  rintro e w3 ⟨rfl, rfl⟩
  go_upto_region 18 with fail
  generalize hw3 : World.drew (World.setCell w2 _ _) = w3
  have G3 := hide (show BL w3 g t (uc { hdA bs with mark := decide (g8 bs 1 / 128 = 1), ty := g8 bs 1 % 128, seq := g16 bs 2, time := g32 bs 4 } sv (.slice none 0 0) rest) by subst hw3; exact (G2.out.set 6 _).drew)
  have K3 := hide (show Keep w w3 (· = g) by subst hw3; exact (K2.out.setg _ (fun _ => rfl) _).drew)
  clear hw3 x6 fg hgw
  have R3 := hide (HR.out.keep K3.out (fun i hi hp => (HPG.out i hp).1))
  have x7 := G3.out.cell 7 (v := .int .u32 0) rfl
  have fg := fun i => G3.out.free i
  have hgw := G3.out.lt
  go_wp2_with fail
  refine (be32_at w3 R3.out HI.out 8 (by omega) (by decide)).mono ?_
  rintro e w4 ⟨rfl, rfl⟩
  go_upto_region 19 with fail
  generalize hw4 : World.drew (World.setCell w3 _ _) = w4
  have G4 := hide (show BL w4 g t (uc (hdB bs) sv (.slice none 0 0) rest) by subst hw4; exact (G3.out.set 7 _).drew)
  have K4 := hide (show Keep w w4 (· = g) by subst hw4; exact (K3.out.setg _ (fun _ => rfl) _).drew)
  clear hw4 x7 fg hgw G1 G2 G3 K1 K2 K3 R1 R2 R3
  have x8 := G4.out.cell 8 (v := sv) rfl
  have O4 := hide (HO.out.keep K4.out (fun i hi e => HSG.out (e ▸ hi)))
  obtain ⟨As, cs, rfl⟩ := HO.out.rd.shape
  have hgw := G4.out.lt
  go_wp2_with fail
  go_loopw [123] (fun i wr => ∃ j : Nat, j ≤ k ∧ i = .int .i64 (j : Int) ∧ Own wr B 23 1 (.slice As k cs) k (U32 ((srcsR bs).take j ++ List.replicate (k - j) 0)) ∧ Keep w4 wr (fun i => (Value.slice As k cs).ownBlock = some i)) (fun i _ => k - (intOf i).toNat)
  case atStart => exact ⟨0, Nat.zero_le _, rfl, by simpa using O4.out, Keep.refl _ _⟩
  case round =>
    obtain ⟨j, hj, rfl, hO, hK⟩ := hrel
    have G5 := hide (G4.out.keep hK HSG.out)
    have K5 := hide ((K4.out.mono (S' := fun i => i = g ∨ (Value.slice As k cs).ownBlock = some i) (fun i _ e => .inl e)).trans hK (fun i _ e => .inr e))
    by_cases hlt : j < k
    · have hO2 := hO.2
      have OO := hide hO
      have KK := hide hK
      obtain ⟨gs, rfl⟩ : ∃ gs, As = some ⟨gs, 0, none⟩ := by
        rcases hO2 with ⟨_, h0⟩ | ⟨gs, _, _, _, hv, _⟩
        · omega
        · injection hv with e; exact ⟨gs, e⟩
      have R5 := hide ((HR.out.keep K4.out (fun i hi hp => (HPG.out i hp).1)).keep hK (fun i hi hp => (HPG.out i hp).2))
      clear hO hK hO2
      have hgl := hgw
      obtain ⟨hset, ⟨vj, hvj⟩, hfj⟩ := OO.out.set1 j (.int .u32 (g32 bs (12 + 4 * j))) hlt
      have HSET := hide hset
      have lgs := (OO.out.at_ gs rfl).2.1
      have hgsg : ¬ gs = g := fun e => HSG.out (by rw [e]; rfl)
      have hggs : ¬ g = gs := fun e => hgsg e.symm
      have hjk : (j : Int) < (k : Int) := by omega
      have n1 : ¬ c = 12 + j * 4 := by omega
      have n2 : (12 : Int) + (j : Int) * 4 ≤ (n : Int) := by omega
      have n3 : (0 : Int) ≤ (12 : Int) + (j : Int) * 4 := by omega
      have n4 : ((12 : Int) + (j : Int) * 4).toNat = 12 + j * 4 := by omega
      have n5 : 12 + j * 4 ≤ n := by omega
      have hg32 : g32 bs (12 + j * 4) = g32 bs (12 + 4 * j) := by rw [Nat.mul_comm]
      have G32 := hide hg32
      have y8 := G5.out.drew.cell 8 (v := .slice (some ⟨gs, 0, none⟩) k cs) rfl
      clear hset x8 hg32 hgl
      go_upto_region 23 with fail
      go_region_held3 (fun w' => w'.cell? ⟨g, 8, none⟩ = some (.slice (some ⟨gs, 0, none⟩) k cs))
        (first | exact y8 | exact (Blk.far (p := ⟨gs, j, none⟩) G5.out hggs _).cell 8 rfl)
        (first
          | (go_at_call 103; refine (be32_at wr.drew R5.out.drew HI.out (12 + j * 4) (by omega) (by omega)).mono ?_; rintro e wq ⟨rfl, rfl⟩))
      generalize hw6 : World.drew (World.drew (World.setCell wr _ _)) = w6
      have O6 := hide (show Own w6 B 23 1 (.slice (some ⟨gs, 0, none⟩) k cs) k (U32 ((srcsR bs).take (j + 1) ++ List.replicate (k - (j + 1)) 0)) by
        subst hw6
        have := HSET.out
        rw [srcs_step bs j k HK.out hlt] at this
        rw [G32.out]
        exact (this.keep0 ((Keep.refl _ Nul).drew)).keep0 ((Keep.refl _ Nul).drew))
      have K6 := hide (show Keep w4 w6 (fun i => (Value.slice (some ⟨gs, 0, none⟩) k cs).ownBlock = some i) by
        subst hw6
        exact (((KK.out.setg (g := gs) j (fun _ => rfl) _).drew).drew))
      clear hw6 n1 n2 n3 n4 n5 y8 hvj hfj
      go_wp2_with fail
      go_roundw
      case rel => exact ⟨j + 1, by omega, by go_num, O6.out, K6.out⟩
      case measure => simp [intOf]; omega
    · obtain rfl : j = k := by omega
      have hO' : Own wr B 23 1 (.slice As j cs) j (U32 (srcsR bs)) := by
        rw [List.take_of_length_le (by rw [srcsR_len]; have := HK.out; omega), Nat.sub_self] at hO
        simpa using hO
      have O7 := hide hO'
      have hzk := hK.size
      have x2 := G5.out.cell 2 (v := .bool false) (by show some (Value.bool (decide (g8 bs 0 / 16 % 2 = 1))) = _; simp [hx])
      have x10 := G5.out.cell 10 (v := .slice none 0 0) rfl
      have fg := fun i => G5.out.free i
      have hgw5 := G5.out.lt
      clear hO hO' hK x8
      go_upto_region 26 with fail
      generalize hw6 : World.setCell wr _ _ = w6
      have G6 := hide (show BL w6 g t (uc (hdB bs) (.slice As j cs) (.slice none 0 0) rest) by subst hw6; exact G5.out.set 10 (.slice none 0 0))
      have K6 := hide (show Keep w w6 (fun i => i = g ∨ (Value.slice As j cs).ownBlock = some i) by subst hw6; exact K5.out.setg (g := g) 10 (fun _ => .inl rfl) _)
      have O6 := hide (show Own w6 B 23 1 (.slice As j cs) j (U32 (srcsR bs)) by subst hw6; exact O7.out.keep (Keep.set1 _ _ _ _) (fun i hi e => HSG.out (e ▸ hi)))
      have y2 := G6.out.cell 2 (v := .bool false) (by show some (Value.bool (decide (g8 bs 0 / 16 % 2 = 1))) = _; simp [hx])
      clear hw6 x2 x10 fg
      go_wp2_with fail
      (try go_ret2)
      refine HP.out _ ⟨.slice As j cs, .slice none 0 0, G6.out, ?_, XR.nil_ _ _⟩ K6.out
      have e1 : (headR bs).srcs.length = j := by show (srcsR bs).length = j; rw [srcsR_len]; exact HK.out.symm
      rw [e1]
      exact O6.out.rdB
end Go.Proofs.YtdmnflngafbobaaDoor
namespace Go.Proofs.YtdmnflngafbobaaDoor
open Go.RowKit
set_option linter.unusedVariables false
set_option linter.unusedSimpArgs false
set_option maxRecDepth 100000

/-- What a call of Unmarshal that fails leaves. -/
def UnBad (w : World) (g : Nat) (t : TypeId) (rest : List Value) (post : Ending → World → Prop) (te : TypeId) (ve : Value) : Prop :=
  ∀ (m : Int) (w' : World) (hd : Hd), hd.srcs.length ≤ 15 → hd.exts = [] → UH w' (w.heap.size ≤ ·) g t rest hd → Keep w w' (· = g) → post (.returned (.tuple #[.int .i64 m, .iface te ve])) w'

theorem UH.zero {w : World} {q : Nat → Prop} {g : Nat} {t : TypeId} {rest : List Value} (h : BL w g t (uc hd0 (.slice none 0 0) (.slice none 0 0) rest)) : UH w q g t rest hd0 := ⟨_, _, h, Rd.nil_ _ _ _, XR.nil_ _ _⟩

theorem un_bad4 {bs : List Int} {n c g : Nat} {A : Option Addr} {t : TypeId} {rest : List Value} {post : Ending → World → Prop} {te : TypeId} {ve : Value} (w : World) (hn : n < 4) (hG : BL w g t (uc hd0 (.slice none 0 0) (.slice none 0 0) rest))
    (he : w.cell? ⟨2, 0, none⟩ = some (.iface te ve)) (hpost : UnBad w g t rest post te ve) :
    Calls Tryd.prog 71 #[.pointer (some ⟨g, 0, none⟩), .slice A n c] w post := by
  have HG := hide hG
  have HP := hide hpost
  have hn' : (n : Int) < 4 := by omega
  clear hG hpost
  go_enter Tryd.func71, Tryd.ntmps71
  go_upto_region 2 with fail
  go_quiet (fail)
  go_wp2_with fail
  (try go_ret2)
  exact HP.out _ _ hd0 (by decide) rfl (UH.zero (HG.out.keep ((Keep.refl w Nul).drewN _) id)) (((Keep.refl w _).drewN _))

set_option maxHeartbeats 1600000 in
theorem un_head {p : Nat → Prop} {bs : List Int} {n c b o g : Nat} {t : TypeId} {rest : List Value} {post : Ending → World → Prop} {te : TypeId} {ve : Value} (w : World) (hR : Rd w p 1 (.slice (some ⟨b, o, none⟩) n c) n (B8 bs)) (hI : IsB bs) (h4 : 4 ≤ n) (hnm : n ≤ 2147483647)
    (hpg : ∀ i, p i → i ≠ g) (hG : BL w g t (uc hd0 (.slice none 0 0) (.slice none 0 0) rest)) (he : w.cell? ⟨2, 0, none⟩ = some (.iface te ve)) (hge : g ≠ 2) (hpost : n < 12 + 4 * cc bs → UnBad w g t rest post te ve)
    (h13 : ∀ (wx : World) (sv : Value) (u2 u3 u7 u8 u9 u10 u11 u12 u13 u14 u15 u16 u17 u18 u19 u20 u21 u22 u23 u24 u25 u26 u27 u28 u29 u30 u31 u32 u33 u34 u35 u36 u37 u38 u39 u40 u41 u42 u43 u44 u45 u46 u47 u48 u49 u50 u51 u52 u53 u54 u55 u56 u57 u58 u59 u60 u61 u62 u63 u64 u65 u66 u67 u68 u69 u70 u71 u72 u73 u74 u75 u76 u77 u78 u79 u80 u81 u82 u83 u84 u85 u86 u87 u88 u89 u90 u91 u92 u93 u94 u95 u96 u97 u98 u99 u100 u101 u102 u103 u104 u105 u106 u107 u108 u109 u110 u111 u112 u113 u114 u115 u116 u117 u118 u119 u120 u121 u122 u123 u124 u125 u126 u127 u128 u129 u130 u131 u132 u133 u134 u135 u136 u137 u138 u139 u140 u141 u142 u143 u144 u145 u146 u147 u148 u149 u150 u151 u152 u153 u154 u155 u156 u157 u158 u159 u160 u161 u162 u163 u164 u165 u166 u167 u168 u169 u170 u171 u172 u173 u174 u175 u176 u177 u178 u179 u180 u181 u182 u183 u184 u185 u186 u187 u188 u189 u190 u191 u192 u193 u194 u195 u196 u197 u198 u199 u200 u201 u202 u203 u204 u205 u206 u207 u208 u209 u210 u211 u212 u213 u214 u215 u216 u217 u218 u219 u220 u221 u222 u223 u224 u225 u226 u227 u228 u229 u230 u231 u232 u233 u234 u235 u236 u237 u238 u239 u240 u241 u242 u243 u244 u245 u246 u247 u248 u249 u250 u251 u252 u253 u254 u255 u256 u257 u258 u259 u260 u261 u262 u263 u264 u265 u266 u267 u268 u269 u270 u271 u272 u273 u274 u275 u276 u277 u278 u279 u280 u281 u282 u283 u284 u285 u286 u287 u288 u289 u290 u291 u292 u293 u294 u295 u296 : Value), 12 + 4 * cc bs ≤ n → BL wx g t (uc (hdA bs) sv (.slice none 0 0) rest) → Own wx w.heap.size 23 1 sv (cc bs) (U32 (List.replicate (cc bs) 0)) → Keep w wx (· = g) →
      Part Tryd.prog Tryd.f71 13 (bodyPost Tryd.prog Tryd.f71 post) ⟨List.toArray (.pointer (some ⟨g, 0, none⟩) :: .slice (some ⟨b, o, none⟩) n c :: u2 :: u3 :: .int .i64 (12 + (cc bs : Int) * 4) :: .nilIface :: .int .i64 (cc bs : Int) :: u7 :: u8 :: u9 :: u10 :: u11 :: u12 :: u13 :: u14 :: u15 :: u16 :: u17 :: u18 :: u19 :: u20 :: u21 :: u22 :: u23 :: u24 :: u25 :: u26 :: u27 :: u28 :: u29 :: u30 :: u31 :: u32 :: u33 :: u34 :: u35 :: u36 :: u37 :: u38 :: u39 :: u40 :: u41 :: u42 :: u43 :: u44 :: u45 :: u46 :: u47 :: u48 :: u49 :: u50 :: u51 :: u52 :: u53 :: u54 :: u55 :: u56 :: u57 :: u58 :: u59 :: u60 :: u61 :: u62 :: u63 :: u64 :: u65 :: u66 :: u67 :: u68 :: u69 :: u70 :: u71 :: u72 :: u73 :: u74 :: u75 :: u76 :: u77 :: u78 :: u79 :: u80 :: u81 :: u82 :: u83 :: u84 :: u85 :: u86 :: u87 :: u88 :: u89 :: u90 :: u91 :: u92 :: u93 :: u94 :: u95 :: u96 :: u97 :: u98 :: u99 :: u100 :: u101 :: u102 :: u103 :: u104 :: u105 :: u106 :: u107 :: u108 :: u109 :: u110 :: u111 :: u112 :: u113 :: u114 :: u115 :: u116 :: u117 :: u118 :: u119 :: u120 :: u121 :: u122 :: u123 :: u124 :: u125 :: u126 :: u127 :: u128 :: u129 :: u130 :: u131 :: u132 :: u133 :: u134 :: u135 :: u136 :: u137 :: u138 :: u139 :: u140 :: u141 :: u142 :: u143 :: u144 :: u145 :: u146 :: u147 :: u148 :: u149 :: u150 :: u151 :: u152 :: u153 :: u154 :: u155 :: u156 :: u157 :: u158 :: u159 :: u160 :: u161 :: u162 :: u163 :: u164 :: u165 :: u166 :: u167 :: u168 :: u169 :: u170 :: u171 :: u172 :: u173 :: u174 :: u175 :: u176 :: u177 :: u178 :: u179 :: u180 :: u181 :: u182 :: u183 :: u184 :: u185 :: u186 :: u187 :: u188 :: u189 :: u190 :: u191 :: u192 :: u193 :: u194 :: u195 :: u196 :: u197 :: u198 :: u199 :: u200 :: u201 :: u202 :: u203 :: u204 :: u205 :: u206 :: u207 :: u208 :: u209 :: u210 :: u211 :: u212 :: u213 :: u214 :: u215 :: u216 :: u217 :: u218 :: u219 :: u220 :: u221 :: u222 :: u223 :: u224 :: u225 :: u226 :: u227 :: u228 :: u229 :: u230 :: u231 :: u232 :: u233 :: u234 :: u235 :: u236 :: u237 :: u238 :: u239 :: u240 :: u241 :: u242 :: u243 :: u244 :: u245 :: u246 :: u247 :: u248 :: u249 :: u250 :: u251 :: u252 :: u253 :: u254 :: u255 :: u256 :: u257 :: u258 :: u259 :: u260 :: u261 :: u262 :: u263 :: u264 :: u265 :: u266 :: u267 :: u268 :: u269 :: u270 :: u271 :: u272 :: u273 :: u274 :: u275 :: u276 :: u277 :: u278 :: u279 :: u280 :: u281 :: u282 :: u283 :: u284 :: u285 :: u286 :: u287 :: u288 :: u289 :: u290 :: u291 :: u292 :: u293 :: u294 :: u295 :: u296 :: []), []⟩ wx) :
    Calls Tryd.prog 71 #[.pointer (some ⟨g, 0, none⟩), .slice (some ⟨b, o, none⟩) n c] w post := by
  have HP := hide hpost
  have HPG := hide hpg
  have H13 := hide h13
  have HG := hide hG
  have HR := hide hR
  have HE := hide he
  have r0 := g8_rng hI 0
  have c0 := rd_at hR 0 (by omega)
  rw [Nat.add_zero] at c0
  obtain ⟨_, _, _, hvv, hnc, hcm, hpb, hbw, hcc⟩ := hR.lit (by omega)
  clear hcc
  injection hvv with e1 _ e3
  injection e1 with e1
  injection e1 with e1 e2
  subst e1 e2 e3
  have hbg : ¬ b = g := hpg b hpb
  have hgb : ¬ g = b := fun e => hbg e.symm
  have hgw := hG.lt
  have x0 := hG.cell 0 (v := .int .u8 0) rfl
  have x1 := hG.cell 1 (v := .bool false) rfl
  have x2 := hG.cell 2 (v := .bool false) rfl
  have fg := fun i => HG.out.free i
  have q0 := bit_v (g8 bs 0) r0
  have q1 := bit_1 (g8 bs 0 / 32) (by omega)
  have q2 := bit_1 (g8 bs 0 / 16) (by omega)
  have hn4 : ¬ (n : Int) < 4 := by omega
  clear hpost hpg h13 hG hR he
  go_enter Tryd.func71, Tryd.ntmps71
  go_upto_region 6 with fail
  generalize hw1 : World.setCell (World.setCell (World.setCell w _ _) _ _) _ _ = w1
  have em1 : decide (0 < g8 bs 0 / 32 % 2) = decide (g8 bs 0 / 32 % 2 = 1) := decide_eq_decide.2 (by omega)
  have em2 : decide (0 < g8 bs 0 / 16 % 2) = decide (g8 bs 0 / 16 % 2 = 1) := decide_eq_decide.2 (by omega)
  have G1 := hide (show BL w1 g t (uc { hdA bs with srcs := [] } (.slice none 0 0) (.slice none 0 0) rest) by
    subst hw1
    have h := ((HG.out.set 0 (.int .u8 (g8 bs 0 / 64))).set 1 (.bool (decide (0 < g8 bs 0 / 32 % 2)))).set 2 (.bool (decide (0 < g8 bs 0 / 16 % 2)))
    have el : (((uc hd0 (.slice none 0 0) (.slice none 0 0) rest).set 0 (.int .u8 (g8 bs 0 / 64))).set 1 (.bool (decide (0 < g8 bs 0 / 32 % 2)))).set 2 (.bool (decide (0 < g8 bs 0 / 16 % 2))) = uc { hdA bs with srcs := [] } (.slice none 0 0) (.slice none 0 0) rest := by
      simp only [uc, hd0, hdA, List.set_cons_zero, List.set_cons_succ, em1, em2]
    rw [el] at h
    exact h)
  have K1 := hide (show Keep w w1 (· = g) by subst hw1; exact (((Keep.refl w (· = g)).setg _ (fun _ => rfl) _).setg _ (fun _ => rfl) _).setg _ (fun _ => rfl) _)
  have HZ1 := hide (show w1.heap.size = w.heap.size by subst hw1; simp [World.setCell])
  clear hw1 em1 em2 q0 q1 q2 x0 x1 x2 fg c0 hgw
  have R1 := hide (HR.out.keep K1.out (fun i hi hp => HPG.out i hp))
  have c0 := rd_at R1.out 0 (by omega)
  rw [Nat.add_zero] at c0
  have x8 := G1.out.cell 8 (v := .slice none 0 0) rfl
  have fg := fun i => G1.out.free i
  have hgw := G1.out.lt
  have q15 := bit_15 (g8 bs 0) r0
  obtain ⟨k, hk⟩ : ∃ k, k = cc bs := ⟨_, rfl⟩
  have hki : g8 bs 0 % 16 = (k : Int) := by rw [hk]; unfold cc; omega
  have hk15 : k ≤ 15 := by omega
  have HKC := hide hk
  rw [← hk] at H13 HP
  clear hk
  go_upto_region 7 with fail
  have HKI := hide hki
  clear hki q15 c0
  go_upto_if 59 with fail
  go_cut [4] (fun s4 wx => s4 = .int .i64 0 ∧ ∃ sv, BL wx g t (uc (hdA bs) sv (.slice none 0 0) rest) ∧ Own wx w.heap.size 23 1 sv k (U32 (List.replicate k 0)) ∧ Keep w wx (· = g))
  case first =>
    by_cases h0 : k = 0
    · subst h0
      go_wp2_with fail
      go_meet
      refine ⟨rfl, .slice none 0 0, ?_, Own.nil_ _ _ _ _, K1.out.setg _ (fun _ => rfl) _⟩
      have := G1.out.set 8 (.slice none 0 0)
      have e : hdA bs = { hdA bs with srcs := [] } := by unfold hdA; rw [← HKC.out]; rfl
      rw [e]
      exact this
    · have hkp : (0 : Int) < (k : Int) := by omega
      have mkU := run_mk etU k (by omega) (by omega)
      simp only [Nat.mul_one] at mkU
      go_wp2_with fail
      go_meet
      refine ⟨rfl, .slice (some ⟨w1.heap.size, 0, none⟩) k k, ?_, ?_, ?_⟩
      · exact (G1.out.set 8 (.slice (some ⟨w1.heap.size, 0, none⟩) k k)).alloc _
      · have hb : Blk ((w1.setCell ⟨g, 8, none⟩ (.slice (some ⟨w1.heap.size, 0, none⟩) k k)).alloc (.cells (madeCells #[.int .u32 0] k) 23)) w1.heap.size 23 (madeCells #[.int .u32 0] k) := Blk.new' (by simp [World.setCell])
        have ho := Own.of_blk (B := w.heap.size) (n := k) (cap := k) (sz := 1) hb (Nat.le_of_eq HZ1.out.symm) (Nat.le_refl _) (by simp only [maxLen]; omega) (by simp [size_madeCells])
        have e : ((madeCells #[Value.int .u32 0] k).toList.take (k * 1)) = U32 (List.replicate k 0) := by rw [made_one]; simp [U32]
        rw [e] at ho
        exact ho
      · exact (K1.out.setg _ (fun _ => rfl) _).alloc _
  case rest =>
  obtain ⟨w2, hw2⟩ : ∃ w2, w2 = wc := ⟨_, rfl⟩
  subst hw2
  obtain ⟨rfl, sv, g2, o2, k2⟩ := hcut
  have G2 := hide g2
  have O2 := hide o2
  have K2 := hide k2
  have hgw2 := g2.lt
  clear g2 o2 k2 x8 fg G1 hgw
  by_cases hlt : n < 12 + 4 * k
  · have he2 := K2.out.cell (fun e => hge e.symm) HE.out
    have hlt' : (n : Int) < 12 + (k : Int) * 4 := by omega
    go_upto_region 12 with fail
    go_quiet (fail)
    go_wp2_with fail
    (try go_ret2)
    refine HP.out hlt _ _ (hdA bs) ?_ rfl ⟨sv, .slice none 0 0, G2.out.keep ((Keep.refl w2 Nul).drewN _) id, ?_, XR.nil_ _ _⟩ (K2.out.drewN _)
    · show (List.replicate (cc bs) 0).length ≤ 15
      rw [List.length_replicate, ← HKC.out]; exact hk15
    · show Rd _ _ 1 sv (List.replicate (cc bs) 0).length (U32 (List.replicate (cc bs) 0))
      rw [List.length_replicate, ← HKC.out]
      exact (O2.out.keep0 ((Keep.refl w2 Nul).drewN _)).rdB
  · have hlt' : ¬ (n : Int) < 12 + (k : Int) * 4 := by omega

    go_upto_region 13 with fail
    exact part_use (H13.out w2 sv _ _ _ _ _ _ _ _ _ _ _ _ _ _ _ _ _ _ _ _ _ _ _ _ _ _ _ _ _ _ _ _ _ _ _ _ _ _ _ _ _ _ _ _ _ _ _ _ _ _ _ _ _ _ _ _ _ _ _ _ _ _ _ _ _ _ _ _ _ _ _ _ _ _ _ _ _ _ _ _ _ _ _ _ _ _ _ _ _ _ _ _ _ _ _ _ _ _ _ _ _ _ _ _ _ _ _ _ _ _ _ _ _ _ _ _ _ _ _ _ _ _ _ _ _ _ _ _ _ _ _ _ _ _ _ _ _ _ _ _ _ _ _ _ _ _ _ _ _ _ _ _ _ _ _ _ _ _ _ _ _ _ _ _ _ _ _ _ _ _ _ _ _ _ _ _ _ _ _ _ _ _ _ _ _ _ _ _ _ _ _ _ _ _ _ _ _ _ _ _ _ _ _ _ _ _ _ _ _ _ _ _ _ _ _ _ _ _ _ _ _ _ _ _ _ _ _ _ _ _ _ _ _ _ _ _ _ _ _ _ _ _ _ _ _ _ _ _ _ _ _ _ _ _ _ _ _ _ _ _ _ _ _ _ _ _ _ _ _ _ _ _ _ _ _ _ _ _ _ _ _ _ _ _ _ _ _ _ _ _ _ _ (by omega) G2.out O2.out K2.out) rfl rfl (by assumption)
end Go.Proofs.YtdmnflngafbobaaDoor
