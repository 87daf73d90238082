/-
  (*rtp.Packet).Unmarshal. Conditions: those that stand in each theorem.
-/
import Derived.Test.YtdmnflngafbobaaDoorUnH
import Derived.Test.YtdmnflngafbobaaDoorPk
namespace Go.Proofs.YtdmnflngafbobaaDoor
open Go.RowKit
set_option linter.unusedVariables false
set_option linter.unusedSimpArgs false
set_option maxRecDepth 100000

/-- What Unmarshal of a header leaves. -/
def UnPost (bs : List Int) (w : World) (g : Nat) (t : TypeId) (rest : List Value) (q : Nat → Prop) (e : Ending) (w' : World) : Prop :=
  (∃ h m, readB bs = .good h m ∧ e = .returned (.tuple #[.int .i64 (m : Int), Value.nilIface]) ∧ UH w' q g t rest h ∧ Keep w w' (· = g)) ∨
  (readB bs = .bad ∧ ∃ (m : Int) (te : TypeId) (ve : Value) (hd : Hd), e = .returned (.tuple #[.int .i64 m, .iface te ve]) ∧ hd.srcs.length ≤ 15 ∧ hd.exts = [] ∧ UH w' q g t rest hd ∧ Keep w w' (· = g))

/-- The listed errors of reading, which are not nil. -/
structure Errs (w : World) : Prop where
  e1 : ∃ te ve, w.cell? ⟨2, 0, none⟩ = some (.iface te ve)
  e2 : ∃ te ve, w.cell? ⟨3, 0, none⟩ = some (.iface te ve)
  e3 : ∃ te ve, w.cell? ⟨0, 0, none⟩ = some (.iface te ve)
  e4 : ∃ te ve, w.cell? ⟨1, 0, none⟩ = some (.iface te ve)
/-- The blocks of the program's own variables. -/
def Glob (g : Nat) : Prop := g = 2 ∨ g = 3 ∨ g = 0 ∨ g = 1
theorem Errs.keep {w w' : World} {S : Nat → Prop} (h : Errs w) (k : Keep w w' S) (hS : ∀ g, Glob g → ¬ S g) : Errs w' := by
  obtain ⟨⟨a1, b1, c1⟩, ⟨a2, b2, c2⟩, ⟨a3, b3, c3⟩, ⟨a4, b4, c4⟩⟩ := h
  exact ⟨⟨a1, b1, k.cell (hS _ (.inl rfl)) c1⟩, ⟨a2, b2, k.cell (hS _ (.inr (.inl rfl))) c2⟩, ⟨a3, b3, k.cell (hS _ (.inr (.inr (.inl rfl)))) c3⟩, ⟨a4, b4, k.cell (hS _ (.inr (.inr (.inr rfl)))) c4⟩⟩
theorem Errs.lt {w : World} (h : Errs w) {g : Nat} (hg : Glob g) : g < w.heap.size := by
  obtain ⟨⟨a1, b1, c1⟩, ⟨a2, b2, c2⟩, ⟨a3, b3, c3⟩, ⟨a4, b4, c4⟩⟩ := h
  rcases hg with rfl | rfl | rfl | rfl
  · exact block_lt_of_cell c1
  · exact block_lt_of_cell c2
  · exact block_lt_of_cell c3
  · exact block_lt_of_cell c4
theorem Errs.keep0 {w w' : World} (h : Errs w) (k : Keep w w' Nul) : Errs w' := h.keep k fun _ _ e => e

/-- Unmarshal of a header without extensions. -/
theorem un0_walk {p : Nat → Prop} {bs : List Int} {n c g : Nat} {A : Option Addr} {t : TypeId} {rest : List Value} (w : World) (hR : Rd w p 1 (.slice A n c) n (B8 bs)) (hI : IsB bs) (hnm : n ≤ 2147483647)
    (hp : ∀ i, p i → i ≠ g) (hpl : ∀ i, p i → i < w.heap.size) (hG : BL w g t (uc hd0 (.slice none 0 0) (.slice none 0 0) rest)) (he : Errs w) (hge : ¬ Glob g) (hx : 4 ≤ n → g8 bs 0 / 16 % 2 ≠ 1) (hv : readB bs ≠ .wide) :
    Calls Tryd.prog 71 #[.pointer (some ⟨g, 0, none⟩), .slice A n c] w (UnPost bs w g t rest (w.heap.size ≤ ·)) := by
  obtain ⟨te, ve, he1⟩ := he.e1
  have hl : bs.length = n := by have := hR.len; rwa [B8_len] at this
  have hbad : n < 12 + 4 * cc bs → readB bs = .bad := by
    intro h
    unfold readB
    by_cases h1 : bs.length < 12
    · rw [if_pos h1]
    · rw [if_neg h1, if_pos (by omega)]
  have hub : n < 12 + 4 * cc bs → UnBad w g t rest (UnPost bs w g t rest (w.heap.size ≤ ·)) te ve := fun h m w' hd h1 h2 h3 h4 => .inr ⟨hbad h, m, te, ve, hd, rfl, h1, h2, h3, h4⟩
  by_cases h4 : n < 4
  · exact un_bad4 (bs := bs) w h4 hG he1 (hub (by omega))
  · obtain ⟨b, o, c', hv', q1, q2, q3, q4, -⟩ := hR.lit (by omega)
    injection hv' with e1 _ e3
    subst e1 e3
    refine un_head (p := p) w hR hI (by omega) hnm hp hG he1 (fun e => hge (.inl e)) hub ?_
    intro wx sv u2 u3 u7 u8 u9 u10 u11 u12 u13 u14 u15 u16 u17 u18 u19 u20 u21 u22 u23 u24 u25 u26 u27 u28 u29 u30 u31 u32 u33 u34 u35 u36 u37 u38 u39 u40 u41 u42 u43 u44 u45 u46 u47 u48 u49 u50 u51 u52 u53 u54 u55 u56 u57 u58 u59 u60 u61 u62 u63 u64 u65 u66 u67 u68 u69 u70 u71 u72 u73 u74 u75 u76 u77 u78 u79 u80 u81 u82 u83 u84 u85 u86 u87 u88 u89 u90 u91 u92 u93 u94 u95 u96 u97 u98 u99 u100 u101 u102 u103 u104 u105 u106 u107 u108 u109 u110 u111 u112 u113 u114 u115 u116 u117 u118 u119 u120 u121 u122 u123 u124 u125 u126 u127 u128 u129 u130 u131 u132 u133 u134 u135 u136 u137 u138 u139 u140 u141 u142 u143 u144 u145 u146 u147 u148 u149 u150 u151 u152 u153 u154 u155 u156 u157 u158 u159 u160 u161 u162 u163 u164 u165 u166 u167 u168 u169 u170 u171 u172 u173 u174 u175 u176 u177 u178 u179 u180 u181 u182 u183 u184 u185 u186 u187 u188 u189 u190 u191 u192 u193 u194 u195 u196 u197 u198 u199 u200 u201 u202 u203 u204 u205 u206 u207 u208 u209 u210 u211 u212 u213 u214 u215 u216 u217 u218 u219 u220 u221 u222 u223 u224 u225 u226 u227 u228 u229 u230 u231 u232 u233 u234 u235 u236 u237 u238 u239 u240 u241 u242 u243 u244 u245 u246 u247 u248 u249 u250 u251 u252 u253 u254 u255 u256 u257 u258 u259 u260 u261 u262 u263 u264 u265 u266 u267 u268 u269 u270 u271 u272 u273 u274 u275 u276 u277 u278 u279 u280 u281 u282 u283 u284 u285 u286 u287 u288 u289 u290 u291 u292 u293 u294 u295 u296 hle hGx hOx hKx
    have hgw := hG.lt
    have hgood : readB bs = .good (headR bs) (12 + 4 * cc bs) := by
      have hE : (headR bs).ext = false := by show decide (g8 bs 0 / 16 % 2 = 1) = false; simp [hx (by omega)]
      unfold readB at hv ⊢
      rw [if_neg (by omega), if_neg (by omega)] at hv ⊢
      by_cases h2 : g8 bs 0 / 64 ≠ 2
      · rw [if_pos h2] at hv; exact absurd rfl hv
      · rw [if_neg h2, if_pos hE]
    refine un_p13 wx u2 u3 u7 u8 u9 u10 u11 u12 u13 u14 u15 u16 u17 u18 u19 u20 u21 u22 u23 u24 u25 u26 u27 u28 u29 u30 u31 u32 u33 u34 u35 u36 u37 u38 u39 u40 u41 u42 u43 u44 u45 u46 u47 u48 u49 u50 u51 u52 u53 u54 u55 u56 u57 u58 u59 u60 u61 u62 u63 u64 u65 u66 u67 u68 u69 u70 u71 u72 u73 u74 u75 u76 u77 u78 u79 u80 u81 u82 u83 u84 u85 u86 u87 u88 u89 u90 u91 u92 u93 u94 u95 u96 u97 u98 u99 u100 u101 u102 u103 u104 u105 u106 u107 u108 u109 u110 u111 u112 u113 u114 u115 u116 u117 u118 u119 u120 u121 u122 u123 u124 u125 u126 u127 u128 u129 u130 u131 u132 u133 u134 u135 u136 u137 u138 u139 u140 u141 u142 u143 u144 u145 u146 u147 u148 u149 u150 u151 u152 u153 u154 u155 u156 u157 u158 u159 u160 u161 u162 u163 u164 u165 u166 u167 u168 u169 u170 u171 u172 u173 u174 u175 u176 u177 u178 u179 u180 u181 u182 u183 u184 u185 u186 u187 u188 u189 u190 u191 u192 u193 u194 u195 u196 u197 u198 u199 u200 u201 u202 u203 u204 u205 u206 u207 u208 u209 u210 u211 u212 u213 u214 u215 u216 u217 u218 u219 u220 u221 u222 u223 u224 u225 u226 u227 u228 u229 u230 u231 u232 u233 u234 u235 u236 u237 u238 u239 u240 u241 u242 u243 u244 u245 u246 u247 u248 u249 u250 u251 u252 u253 u254 u255 u256 u257 u258 u259 u260 u261 u262 u263 u264 u265 u266 u267 u268 u269 u270 u271 u272 u273 u274 u275 u276 u277 u278 u279 u280 u281 u282 u283 u284 u285 u286 u287 u288 u289 u290 u291 u292 u293 u294 u295 u296 (B := w.heap.size) (sv := sv) (rest := rest) (t := t) (k := cc bs) (bs := bs) (p := p) ?_ (hR.keep hKx (fun i hi hp' e => hp i hp' e)) hI rfl hle hnm (hx (by omega)) hGx hOx (fun e => by have := (hOx.at_ g e).1; omega) (fun i hi => ⟨hp i hi, fun e => by have := (hOx.at_ i e).1; have := hpl i hi; omega⟩)
    intro w' hu hk
    refine .inl ⟨headR bs, _, hgood, ?_, hu, hKx.trans hk (fun i hi e => ?_)⟩
    · have : (12 + (cc bs : Int) * 4) = ((12 + 4 * cc bs : Nat) : Int) := by omega
      rw [this]
    · rcases e with e | e
      · exact e
      · have := (hOx.at_ i e).1; omega

/-- A piece of a slice. -/
theorem Rd.sub {w : World} {p : Nat → Prop} {bs : List Int} {b o c n : Nat} (hR : Rd w p 1 (.slice (some ⟨b, o, none⟩) n c) n (B8 bs)) (lo hi : Nat) (h1 : lo ≤ hi) (h2 : hi ≤ n) (X : Option Addr) (hX : c ≠ lo → X = some ⟨b, o + lo, none⟩) (hX2 : X ≠ none) :
    Rd w p 1 (.slice X (hi - lo) (c - lo)) (hi - lo) (B8 ((bs.drop lo).take (hi - lo))) := by
  have hl : bs.length = n := by have := hR.len; rwa [B8_len] at this
  obtain ⟨hlen, A, c', hv, h3, h4, h5, h6⟩ := hR
  injection hv with e1 _ e3
  subst e1 e3
  refine ⟨by rw [B8_len]; simp; omega, X, c - lo, rfl, by omega, by omega, fun h => absurd h hX2, fun j u hu => ?_⟩
  have hj : j < hi - lo := by
    have := (List.getElem?_eq_some_iff.1 hu).1
    rw [B8_len] at this
    simp at this
    omega
  have hc : c ≠ lo := by omega
  refine ⟨_, hX hc, ?_, ?_⟩
  · obtain ⟨ad, e, hb, _⟩ := h6 (lo + j) _ (B8_get (g8_of (bs := bs) (i := lo + j) (by omega)))
    injection e with e
    subst e
    exact hb
  · obtain ⟨ad, e, hb, hcell⟩ := h6 (lo + j) u (by
      rw [← hu]
      unfold B8
      rw [List.getElem?_map, List.getElem?_map, List.getElem?_take, if_pos hj, List.getElem?_drop])
    injection e with e
    subst e
    rw [add_lit] at hcell ⊢
    rw [Nat.add_assoc]
    exact hcell
end Go.Proofs.YtdmnflngafbobaaDoor
