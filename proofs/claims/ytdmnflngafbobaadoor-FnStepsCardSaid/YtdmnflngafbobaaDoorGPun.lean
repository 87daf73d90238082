/-
  (*rtp.Packet).Unmarshal. Conditions: those that stand in each theorem.
-/
import Derived.Test.YtdmnflngafbobaaDoorGUn
import Derived.Test.YtdmnflngafbobaaDoorGPk
import Derived.Test.YtdmnflngafbobaaDoorIplain
namespace Go.Proofs.YtdmnflngafbobaaDoor
open Go.RowKit
set_option linter.unusedVariables false
set_option linter.unusedSimpArgs false
set_option maxRecDepth 100000

/-- What Unmarshal of a header leaves. -/
def UnPost (bs : List Int) (w : World) (g : Nat) (t : TypeId) (rest : List Value) (q : Nat → Prop) (e : Ending) (w' : World) : Prop :=
  (∃ h m, readB bs = .good h m ∧ e = .returned (.tuple #[.int .i64 (m : Int), Value.nilIface]) ∧ UH w' q g t rest h ∧ Keep w w' (· = g)) ∨
  (readB bs = .bad ∧ ∃ (m : Int) (te : TypeId) (ve : Value) (hd : Hd), e = .returned (.tuple #[.int .i64 m, .iface te ve]) ∧ hd.srcs.length ≤ 15 ∧ hd.exts = [] ∧ UH w' q g t rest hd ∧ Keep w w' (· = g))

/-- The listed errors of reading, which are not nil. -/
structure Errs (w : World) : Prop where
  e1 : ∃ te ve, w.cell? ⟨2, 0, none⟩ = some (.iface te ve)
  e2 : ∃ te ve, w.cell? ⟨3, 0, none⟩ = some (.iface te ve)
  e3 : ∃ te ve, w.cell? ⟨0, 0, none⟩ = some (.iface te ve)
  e4 : ∃ te ve, w.cell? ⟨1, 0, none⟩ = some (.iface te ve)
/-- The blocks of the program's own variables. -/
def Glob (g : Nat) : Prop := g = 2 ∨ g = 3 ∨ g = 0 ∨ g = 1
theorem Errs.keep {w w' : World} {S : Nat → Prop} (h : Errs w) (k : Keep w w' S) (hS : ∀ g, Glob g → ¬ S g) : Errs w' := by
  obtain ⟨⟨a1, b1, c1⟩, ⟨a2, b2, c2⟩, ⟨a3, b3, c3⟩, ⟨a4, b4, c4⟩⟩ := h
  exact ⟨⟨a1, b1, k.cell (hS _ (.inl rfl)) c1⟩, ⟨a2, b2, k.cell (hS _ (.inr (.inl rfl))) c2⟩, ⟨a3, b3, k.cell (hS _ (.inr (.inr (.inl rfl)))) c3⟩, ⟨a4, b4, k.cell (hS _ (.inr (.inr (.inr rfl)))) c4⟩⟩
theorem Errs.lt {w : World} (h : Errs w) {g : Nat} (hg : Glob g) : g < w.heap.size := by
  obtain ⟨⟨a1, b1, c1⟩, ⟨a2, b2, c2⟩, ⟨a3, b3, c3⟩, ⟨a4, b4, c4⟩⟩ := h
  rcases hg with rfl | rfl | rfl | rfl
  · exact block_lt_of_cell c1
  · exact block_lt_of_cell c2
  · exact block_lt_of_cell c3
  · exact block_lt_of_cell c4
theorem Errs.keep0 {w w' : World} (h : Errs w) (k : Keep w w' Nul) : Errs w' := h.keep k fun _ _ e => e

/-- Unmarshal of a header without extensions. -/
theorem un0_walk {p : Nat → Prop} {bs : List Int} {n c g : Nat} {A : Option Addr} {t : TypeId} {rest : List Value} (w : World) (hR : Rd w p 1 (.slice A n c) n (B8 bs)) (hI : IsB bs) (hnm : n ≤ 2147483647)
    (hp : ∀ i, p i → i ≠ g) (hpl : ∀ i, p i → i < w.heap.size) (hG : BL w g t (uc hd0 (.slice none 0 0) (.slice none 0 0) rest)) (he : Errs w) (hge : ¬ Glob g) (hx : 4 ≤ n → g8 bs 0 / 16 % 2 ≠ 1) (hv : readB bs ≠ .wide) :
    Calls Tryd.prog 71 #[.pointer (some ⟨g, 0, none⟩), .slice A n c] w (UnPost bs w g t rest (w.heap.size ≤ ·)) := by
  obtain ⟨te, ve, he1⟩ := he.e1
  have hl : bs.length = n := by have := hR.len; rwa [B8_len] at this
  have hbad : n < 12 + 4 * cc bs → readB bs = .bad := by
    intro h
    unfold readB
    by_cases h1 : bs.length < 12
    · rw [if_pos h1]
    · rw [if_neg h1, if_pos (by omega)]
  have hub : n < 12 + 4 * cc bs → UnBad w g t rest (UnPost bs w g t rest (w.heap.size ≤ ·)) te ve := fun h m w' hd h1 h2 h3 h4 => .inr ⟨hbad h, m, te, ve, hd, rfl, h1, h2, h3, h4⟩
  by_cases h4 : n < 4
  · exact un_bad4 (bs := bs) w h4 hG he1 (hub (by omega))
  · obtain ⟨b, o, c', hv', q1, q2, q3, q4, -⟩ := hR.lit (by omega)
    injection hv' with e1 _ e3
    subst e1 e3
    refine un_head (p := p) w hR hI (by omega) hnm hp hG he1 (fun e => hge (.inl e)) hub ?_
    intro wx sv u2 u3 u7 u8 u9 u10 u11 u12 u13 u14 u15 u16 u17 u18 u19 u20 u21 u22 u23 u24 u25 u26 u27 u28 u29 u30 u31 u32 u33 u34 u35 u36 u37 u38 u39 u40 u41 u42 u43 u44 u45 u46 u47 u48 u49 u50 u51 u52 u53 u54 u55 u56 u57 u58 u59 u60 u61 u62 u63 u64 u65 u66 u67 u68 u69 u70 u71 u72 u73 u74 u75 u76 u77 u78 u79 u80 u81 u82 u83 u84 u85 u86 u87 u88 u89 u90 u91 u92 u93 u94 u95 u96 u97 u98 u99 u100 u101 u102 u103 u104 u105 u106 u107 u108 u109 u110 u111 u112 u113 u114 u115 u116 u117 u118 u119 u120 u121 u122 u123 u124 u125 u126 u127 u128 u129 u130 u131 u132 u133 u134 u135 u136 u137 u138 u139 u140 u141 u142 u143 u144 u145 u146 u147 u148 u149 u150 u151 u152 u153 u154 u155 u156 u157 u158 u159 u160 u161 u162 u163 u164 u165 u166 u167 u168 u169 u170 u171 u172 u173 u174 u175 u176 u177 u178 u179 u180 u181 u182 u183 u184 u185 u186 u187 u188 u189 u190 u191 u192 u193 u194 u195 u196 u197 u198 u199 u200 u201 u202 u203 u204 u205 u206 u207 u208 u209 u210 u211 u212 u213 u214 u215 u216 u217 u218 u219 u220 u221 u222 u223 u224 u225 u226 u227 u228 u229 u230 u231 u232 u233 u234 u235 u236 u237 u238 u239 u240 u241 u242 u243 u244 u245 u246 u247 u248 u249 u250 u251 u252 u253 u254 u255 u256 u257 u258 u259 u260 u261 u262 u263 u264 u265 u266 u267 u268 u269 u270 u271 u272 u273 u274 u275 u276 u277 u278 u279 u280 u281 u282 u283 u284 u285 u286 u287 u288 u289 u290 u291 u292 u293 u294 u295 u296 hle hGx hOx hKx
    have hgw := hG.lt
    have hgood : readB bs = .good (headR bs) (12 + 4 * cc bs) := by
      have hE : (headR bs).ext = false := by show decide (g8 bs 0 / 16 % 2 = 1) = false; simp [hx (by omega)]
      unfold readB at hv ⊢
      rw [if_neg (by omega), if_neg (by omega)] at hv ⊢
      by_cases h2 : g8 bs 0 / 64 ≠ 2
      · rw [if_pos h2] at hv; exact absurd rfl hv
      · rw [if_neg h2, if_pos hE]
    refine un_p13 wx u2 u3 u7 u8 u9 u10 u11 u12 u13 u14 u15 u16 u17 u18 u19 u20 u21 u22 u23 u24 u25 u26 u27 u28 u29 u30 u31 u32 u33 u34 u35 u36 u37 u38 u39 u40 u41 u42 u43 u44 u45 u46 u47 u48 u49 u50 u51 u52 u53 u54 u55 u56 u57 u58 u59 u60 u61 u62 u63 u64 u65 u66 u67 u68 u69 u70 u71 u72 u73 u74 u75 u76 u77 u78 u79 u80 u81 u82 u83 u84 u85 u86 u87 u88 u89 u90 u91 u92 u93 u94 u95 u96 u97 u98 u99 u100 u101 u102 u103 u104 u105 u106 u107 u108 u109 u110 u111 u112 u113 u114 u115 u116 u117 u118 u119 u120 u121 u122 u123 u124 u125 u126 u127 u128 u129 u130 u131 u132 u133 u134 u135 u136 u137 u138 u139 u140 u141 u142 u143 u144 u145 u146 u147 u148 u149 u150 u151 u152 u153 u154 u155 u156 u157 u158 u159 u160 u161 u162 u163 u164 u165 u166 u167 u168 u169 u170 u171 u172 u173 u174 u175 u176 u177 u178 u179 u180 u181 u182 u183 u184 u185 u186 u187 u188 u189 u190 u191 u192 u193 u194 u195 u196 u197 u198 u199 u200 u201 u202 u203 u204 u205 u206 u207 u208 u209 u210 u211 u212 u213 u214 u215 u216 u217 u218 u219 u220 u221 u222 u223 u224 u225 u226 u227 u228 u229 u230 u231 u232 u233 u234 u235 u236 u237 u238 u239 u240 u241 u242 u243 u244 u245 u246 u247 u248 u249 u250 u251 u252 u253 u254 u255 u256 u257 u258 u259 u260 u261 u262 u263 u264 u265 u266 u267 u268 u269 u270 u271 u272 u273 u274 u275 u276 u277 u278 u279 u280 u281 u282 u283 u284 u285 u286 u287 u288 u289 u290 u291 u292 u293 u294 u295 u296 (B := w.heap.size) (sv := sv) (rest := rest) (t := t) (k := cc bs) (bs := bs) (p := p) ?_ (hR.keep hKx (fun i hi hp' e => hp i hp' e)) hI rfl hle hnm (hx (by omega)) hGx hOx (fun e => by have := (hOx.at_ g e).1; omega) (fun i hi => ⟨hp i hi, fun e => by have := (hOx.at_ i e).1; have := hpl i hi; omega⟩)
    intro w' hu hk
    refine .inl ⟨headR bs, _, hgood, ?_, hu, hKx.trans hk (fun i hi e => ?_)⟩
    · have : (12 + (cc bs : Int) * 4) = ((12 + 4 * cc bs : Nat) : Int) := by omega
      rw [this]
    · rcases e with e | e
      · exact e
      · have := (hOx.at_ i e).1; omega

/-- A piece of a slice. -/
theorem Rd.sub {w : World} {p : Nat → Prop} {bs : List Int} {b o c n : Nat} (hR : Rd w p 1 (.slice (some ⟨b, o, none⟩) n c) n (B8 bs)) (lo hi : Nat) (h1 : lo ≤ hi) (h2 : hi ≤ n) (X : Option Addr) (hX : c ≠ lo → X = some ⟨b, o + lo, none⟩) (hX2 : X ≠ none) :
    Rd w p 1 (.slice X (hi - lo) (c - lo)) (hi - lo) (B8 ((bs.drop lo).take (hi - lo))) := by
  have hl : bs.length = n := by have := hR.len; rwa [B8_len] at this
  obtain ⟨hlen, A, c', hv, h3, h4, h5, h6⟩ := hR
  injection hv with e1 _ e3
  subst e1 e3
  refine ⟨by rw [B8_len]; simp; omega, X, c - lo, rfl, by omega, by omega, fun h => absurd h hX2, fun j u hu => ?_⟩
  have hj : j < hi - lo := by
    have := (List.getElem?_eq_some_iff.1 hu).1
    rw [B8_len] at this
    simp at this
    omega
  have hc : c ≠ lo := by omega
  refine ⟨_, hX hc, ?_, ?_⟩
  · obtain ⟨ad, e, hb, _⟩ := h6 (lo + j) _ (B8_get (g8_of (bs := bs) (i := lo + j) (by omega)))
    injection e with e
    subst e
    exact hb
  · obtain ⟨ad, e, hb, hcell⟩ := h6 (lo + j) u (by
      rw [← hu]
      unfold B8
      rw [List.getElem?_map, List.getElem?_map, List.getElem?_take, if_pos hj, List.getElem?_drop])
    injection e with e
    subst e
    rw [add_lit] at hcell ⊢
    rw [Nat.add_assoc]
    exact hcell
end Go.Proofs.YtdmnflngafbobaaDoor
namespace Go.Proofs.YtdmnflngafbobaaDoor
open Go.RowKit
set_option linter.unusedVariables false
set_option linter.unusedSimpArgs false
set_option maxRecDepth 100000

/-- The sizes of a header that has been read. -/
def Hs (h : Hd) : Prop := h.srcs.length ≤ 2147483647 ∧ h.exts.length ≤ 2147483647 ∧ ∀ x ∈ h.exts, x.data.length ≤ 2147483647
/-- A packet of the package that has been read: at g. -/
def UP (w : World) (q : Nat → Prop) (g : Nat) (h : Hd) (pay : List Int) : Prop :=
  ∃ sv xv pv ps, BL w g 110 (uc h sv xv [pv, .int .u8 ps, .slice none 0 0]) ∧ Rd w q 1 sv h.srcs.length (U32 h.srcs) ∧ XR w q xv h.exts ∧ Rd w q 1 pv pay.length (B8 pay)
/-- What Unmarshal of a packet leaves. -/
def PunPost (bs : List Int) (w : World) (g : Nat) (q : Nat → Prop) (e : Ending) (w' : World) : Prop :=
  (∃ h pay, readP bs = .good h pay ∧ Hs h ∧ e = .returned Value.nilIface ∧ UP w' q g h pay ∧ Keep w w' (· = g)) ∨
  (readP bs = .bad ∧ ∃ te ve h, Hs h ∧ e = .returned (.iface te ve) ∧ UP w' q g h [] ∧ Keep w w' (· = g))

/-- The cells behind the stores of a packet that has been read. -/
theorem up_store {w : World} {q : Nat → Prop} {g : Nat} {h : Hd} {pay : List Int} {sv xv pv : Value} {z : Int} (hB : BL w g 110 (uc { h with padn := 0 } sv xv [.slice none 0 0, .int .u8 0, .slice none 0 0])) (r1 : Rd w q 1 sv h.srcs.length (U32 h.srcs)) (r2 : XR w q xv h.exts) (r3 : Rd w q 1 pv pay.length (B8 pay)) (hq : ¬ q g) :
    UP (((w.setCell ⟨g, 11, none⟩ (.int .u8 z)).setCell ⟨g, 14, none⟩ (.int .u8 z)).setCell ⟨g, 13, none⟩ pv) q g { h with padn := z } pay := by
  have k : Keep w (((w.setCell ⟨g, 11, none⟩ (.int .u8 z)).setCell ⟨g, 14, none⟩ (.int .u8 z)).setCell ⟨g, 13, none⟩ pv) (· = g) := (((Keep.refl w (· = g)).setg _ (fun _ => rfl) _).setg _ (fun _ => rfl) _).setg _ (fun _ => rfl) _
  have hk : ∀ i, i < w.heap.size → q i → ¬ i = g := fun i _ hi e => hq (e ▸ hi)
  exact ⟨sv, xv, pv, z, ((hB.set 11 (.int .u8 z)).set 14 (.int .u8 z)).set 13 pv, r1.keep k hk, r2.keep k hk, r3.keep k hk⟩
theorem keep3 {w w1 : World} {g : Nat} (hk : Keep w w1 (· = g)) (a b c : Value) : Keep w (((w1.setCell ⟨g, 11, none⟩ a).setCell ⟨g, 14, none⟩ b).setCell ⟨g, 13, none⟩ c) (· = g) := ((hk.setg _ (fun _ => rfl) _).setg _ (fun _ => rfl) _).setg _ (fun _ => rfl) _

set_option maxHeartbeats 1600000 in
theorem pun_walk {p q : Nat → Prop} {bs : List Int} {n c g : Nat} {A : Option Addr} (w : World) (hR : Rd w p 1 (.slice A n c) n (B8 bs)) (hI : IsB bs) (hnm : n ≤ 2147483647) (hp : ∀ i, p i → i ≠ g) (hpq : ∀ i, p i → q i) (he : Errs w) (hge : ¬ Glob g) (hqg : ¬ q g)
    (hs : ∀ h m, readB bs = .good h m → Hs h ∧ m ≤ n ∧ 12 ≤ m ∧ h.padn = 0) (hv : readP bs ≠ .wide)
    (hU : Calls Tryd.prog 71 #[.pointer (some ⟨g, 0, none⟩), .slice A n c] w (UnPost bs w g 110 [.slice none 0 0, .int .u8 0, .slice none 0 0] q)) :
    Calls Tryd.prog 64 #[.pointer (some ⟨g, 0, none⟩), .slice A n c] w (PunPost bs w g q) := by
  have hl : bs.length = n := by have := hR.len; rwa [B8_len] at this
  have HL := hide hl
  have HR := hide hR
  have HP := hide hp
  have HPQ := hide hpq
  have HE := hide he
  have HS := hide hs
  have HV := hide hv
  have HU := hide hU
  have HI := hide hI
  clear hR hp hpq he hs hv hU hl hI
  go_enter Tryd.func64, Tryd.ntmps64
  go_wp2_with fail
  refine (HU.out).mono ?_
  rintro e w1 hpost
  rcases hpost with ⟨h, m, hg, rfl, hu, hk⟩ | ⟨hb, m, te, ve, hd, rfl, h1, h2, hu, hk⟩
  · obtain ⟨hhs, hmn, h12, hp0⟩ := HS.out h m hg
    have HP0 := hide hp0
    clear hp0
    obtain ⟨sv, xv, hBL, r1, r2⟩ := hu
    have HHS := hide hhs
    have HG := hide hg
    have B1 := hide hBL
    have R1 := hide r1
    have X1 := hide r2
    have K1 := hide hk
    obtain ⟨b, o, c', hv', q1, q2, q3, q4, -⟩ := HR.out.lit (by omega)
    injection hv' with e1 _ e3
    subst e1 e3
    have RB := hide (HR.out.keep hk (fun i hi hp' e => HP.out i hp' e))
    have x11 := hBL.cell 11 (v := .int .u8 h.padn) rfl
    have x13 := hBL.cell 13 (v := .slice none 0 0) rfl
    have x14 := hBL.cell 14 (v := .int .u8 0) rfl
    have fg := fun i => B1.out.free i
    have hgw := hBL.lt
    have x1 := hBL.cell 1 (v := .bool h.pad) rfl
    have hbg : ¬ b = g := HP.out b q3
    have hgb : ¬ g = b := fun e => hbg e.symm
    clear hhs hg hBL r1 r2 hk
    cases hpad : h.pad
    · rw [hpad] at x1
      have HPAD := hide hpad
      have hmi : (m : Int) ≤ (n : Int) := by omega
      have hmi2 : ¬ (n : Int) < (m : Int) := by omega
      clear hpad
      have hrp : readP bs = .good h (bs.drop m) := by unfold readP; rw [HG.out]; simp [HPAD.out]
      have hdl : (bs.drop m).length = n - m := by rw [List.length_drop, HL.out]
      have hdt : (bs.drop m).take (n - m) = bs.drop m := List.take_of_length_le (by omega)
      have e0 : { h with padn := 0 } = h := by have := HP0.out; cases h; simp at this; subst this; rfl
      have HRP := hide hrp
      have HDL := hide hdl
      have HDT := hide hdt
      have HE0 := hide e0
      clear hrp hdl hdt e0
      by_cases hcm : c = m
      · subst hcm
        have hnc : n = c := by omega
        have HNC := hide hnc
        clear hnc
        go_wp2_with fail
        (try go_ret)
        have r3 := RB.out.sub c n hmn (Nat.le_refl _) (some ⟨b, o, none⟩) (fun h => absurd rfl h) (by simp)
        have hz : n - c = 0 := by have := HNC.out; omega
        rw [HDT.out, Nat.sub_self, hz] at r3
        have hu := up_store (z := 0) (h := h) (pay := bs.drop c) (by rw [HE0.out]; exact B1.out) R1.out X1.out (by rw [HDL.out, hz]; exact r3.mono (fun i _ hi => HPQ.out i hi)) hqg
        rw [HE0.out] at hu
        exact .inl ⟨h, _, HRP.out, HHS.out, rfl, hu, keep3 K1.out _ _ _⟩
      · go_wp2_with fail
        (try go_ret)
        have r3 := RB.out.sub m n hmn (Nat.le_refl _) (some ⟨b, o + m, none⟩) (fun _ => rfl) (by simp)
        rw [HDT.out] at r3
        have hu := up_store (z := 0) (h := h) (pay := bs.drop m) (by rw [HE0.out]; exact B1.out) R1.out X1.out (by rw [HDL.out]; exact r3.mono (fun i _ hi => HPQ.out i hi)) hqg
        rw [HE0.out] at hu
        exact .inl ⟨h, _, HRP.out, HHS.out, rfl, hu, keep3 K1.out _ _ _⟩
    · rw [hpad] at x1
      have HPAD := hide hpad
      clear hpad
      obtain ⟨te3, ve3, he3⟩ := (HE.out.keep K1.out (fun i hi e => hge (e ▸ hi))).e3
      by_cases hnle : n ≤ m
      · have hni : (n : Int) ≤ (m : Int) := by omega
        have hrp : readP bs = .bad := by unfold readP; rw [HG.out]; simp [HPAD.out, HL.out, hnle]
        have HRP := hide hrp
        clear hrp
        go_wp2_with fail
        (try go_ret)
        exact .inr ⟨HRP.out, te3, ve3, h, HHS.out, rfl, ⟨sv, xv, _, 0, B1.out, R1.out, X1.out, Rd.nil_ _ _ _⟩, K1.out⟩
      · have hni : ¬ (n : Int) ≤ (m : Int) := by omega
        have hnp : 0 < n := by omega
        obtain ⟨z, hz⟩ : ∃ z, z = g8 bs (n - 1) := ⟨_, rfl⟩
        have hzr := g8_rng HI.out (n - 1)
        have hcz := rd_at RB.out (n - 1) (by omega)
        rw [← hz] at hzr hcz
        have HZ := hide hz
        have hn1 : ((n : Int) - 1).toNat = n - 1 := by omega
        have hn2 : (0 : Int) ≤ (n : Int) - 1 := by omega
        have hz0 : z ≠ 0 := by
          intro h0
          refine HV.out ?_
          unfold readP
          rw [HG.out]
          simp [HPAD.out, HL.out, hnle, ← hz, h0]
        have hzb : (z == 0) = false := by simpa using hz0
        have hzi : (n : Int) - z = ((n - z.toNat : Nat) : Int) ∨ (n : Int) < z := by omega
        clear hz
        by_cases hlt : n - m < z.toNat
        · have hlt' : (n : Int) - z < (m : Int) := by omega
          have hrp : readP bs = .bad := by unfold readP; rw [HG.out]; simp [HPAD.out, HL.out, hnle, ← HZ.out, hz0, hlt]
          have HRP := hide hrp
          clear hrp hzi
          go_wp2_with fail
          (try go_ret)
          have k2 : Keep w1 ((w1.setCell ⟨g, 11, none⟩ (.int .u8 z)).setCell ⟨g, 14, none⟩ (.int .u8 z)) (· = g) := ((Keep.refl w1 (· = g)).setg _ (fun _ => rfl) _).setg _ (fun _ => rfl) _
          have hk : ∀ i, i < w1.heap.size → q i → ¬ i = g := fun i _ hi e => hqg (e ▸ hi)
          exact .inr ⟨HRP.out, te3, ve3, { h with padn := z }, HHS.out, rfl, ⟨sv, xv, .slice none 0 0, z, (B1.out.set 11 (.int .u8 z)).set 14 (.int .u8 z), R1.out.keep k2 hk, X1.out.keep k2 hk, Rd.nil_ _ _ _⟩, K1.out.trans k2 fun _ _ e => e⟩
        · have hlt' : ¬ (n : Int) - z < (m : Int) := by omega
          have hrp : readP bs = .good { h with padn := z } ((bs.drop m).take (n - m - z.toNat)) := by unfold readP; rw [HG.out]; simp [HPAD.out, HL.out, hnle, ← HZ.out, hz0, hlt]
          have hlen : ((bs.drop m).take (n - m - z.toNat)).length = n - z.toNat - m := by rw [List.length_take, List.length_drop, HL.out]; omega
          have HRP := hide hrp
          have HLEN := hide hlen
          have hcm : ¬ c = m := by omega
          have hzn : ((n : Int) - z).toNat = n - z.toNat := by omega
          have hzc : (n : Int) - z ≤ (c : Int) := by omega
          have hzm : (m : Int) ≤ (n : Int) - z := by omega
          have e0 : { h with padn := 0 } = h := by have := HP0.out; cases h; simp at this; subst this; rfl
          have HE0 := hide e0
          clear hrp hlen hzi e0
          go_wp2_with fail
          (try go_ret)
          have r3 := RB.out.sub m (n - z.toNat) (by omega) (by omega) (some ⟨b, o + m, none⟩) (fun _ => rfl) (by simp)
          have et : n - z.toNat - m = n - m - z.toNat := by omega
          have hu := up_store (z := z) (h := h) (pay := (bs.drop m).take (n - m - z.toNat)) (pv := .slice (some ⟨b, o + m, none⟩) (n - z.toNat - m) (c - m)) (by rw [HE0.out]; exact B1.out) R1.out X1.out (by rw [HLEN.out, ← et]; exact r3.mono (fun i _ hi => HPQ.out i hi)) hqg
          exact .inl ⟨_, _, HRP.out, HHS.out, rfl, hu, keep3 K1.out _ _ _⟩
  · obtain ⟨sv, xv, hBL, r1, r2⟩ := hu
    have B1 := hide hBL
    have R1 := hide r1
    have X1 := hide r2
    have K1 := hide hk
    have HB := hide hb
    have H1 := hide h1
    have H2 := hide h2
    clear hBL r1 r2 hk hb h1 h2
    go_wp2_with fail
    (try go_ret)
    refine .inr ⟨by unfold readP; rw [HB.out], te, ve, hd, ⟨by have := H1.out; omega, by rw [H2.out]; simp, fun x hx => by rw [H2.out] at hx; cases hx⟩, rfl, ⟨sv, xv, .slice none 0 0, 0, B1.out, R1.out, X1.out, Rd.nil_ _ _ _⟩, K1.out⟩
end Go.Proofs.YtdmnflngafbobaaDoor
namespace Go.Proofs.YtdmnflngafbobaaDoor
open Go.RowKit
set_option linter.unusedVariables false
set_option linter.unusedSimpArgs false
set_option maxRecDepth 100000

/-- Unmarshal of these bytes does what the reference says. -/
def UnSpec (bs : List Int) : Prop :=
  ∀ (p : Nat → Prop) (w : World) (n c g : Nat) (A : Option Addr) (t : TypeId) (rest : List Value), Rd w p 1 (.slice A n c) n (B8 bs) → n ≤ 2147483647 → (∀ i, p i → i ≠ g ∧ i < w.heap.size) → BL w g t (uc hd0 (.slice none 0 0) (.slice none 0 0) rest) → Errs w → ¬ Glob g →
    Calls Tryd.prog 71 #[.pointer (some ⟨g, 0, none⟩), .slice A n c] w (UnPost bs w g t rest (fun k => w.heap.size ≤ k ∨ p k))
/-- What a read header's sizes are. -/
def HsSpec (bs : List Int) : Prop := ∀ h m, readB bs = .good h m → Hs h ∧ m ≤ bs.length ∧ 12 ≤ m ∧ h.padn = 0

theorem UH.mono {w : World} {q q' : Nat → Prop} {g : Nat} {t : TypeId} {rest : List Value} {h : Hd} (u : UH w q g t rest h) (hq : ∀ k, k < w.heap.size → q k → q' k) : UH w q' g t rest h := by
  obtain ⟨sv, xv, h1, h2, h3⟩ := u
  exact ⟨sv, xv, h1, h2.mono hq, h3.mono hq⟩
theorem UnPost.mono {bs : List Int} {w w' : World} {g : Nat} {t : TypeId} {rest : List Value} {q q' : Nat → Prop} {e : Ending} (h : UnPost bs w g t rest q e w') (hq : ∀ k, q k → q' k) : UnPost bs w g t rest q' e w' := by
  rcases h with ⟨h, m, h1, h2, h3, h4⟩ | ⟨h1, m, te, ve, hd, h2, h3, h4, h5, h6⟩
  · exact .inl ⟨h, m, h1, h2, h3.mono (fun k _ => hq k), h4⟩
  · exact .inr ⟨h1, m, te, ve, hd, h2, h3, h4, h5.mono (fun k _ => hq k), h6⟩
theorem unSpec0 {bs : List Int} (hI : IsB bs) (hx : 4 ≤ bs.length → g8 bs 0 / 16 % 2 ≠ 1) (hv : readB bs ≠ .wide) : UnSpec bs := by
  intro p w n c g A t rest hR hn hp hB he hg
  have hl : bs.length = n := by have := hR.len; rwa [B8_len] at this
  exact (un0_walk w hR hI hn (fun i hi => (hp i hi).1) (fun i hi => (hp i hi).2) hB he hg (by rw [← hl]; exact hx) hv).mono fun e w' h => h.mono fun k hk => .inl hk
theorem hsSpec0 {bs : List Int} (hx : 4 ≤ bs.length → g8 bs 0 / 16 % 2 ≠ 1) : HsSpec bs := by
  intro h m hr
  unfold readB at hr
  split at hr
  · cases hr
  · rename_i h12
    have hE : (headR bs).ext = false := by show decide (g8 bs 0 / 16 % 2 = 1) = false; simp [hx (by omega)]
    split at hr
    · cases hr
    · split at hr
      · cases hr
      · cases hr
        have hc : cc bs ≤ 15 := by unfold cc; omega
        exact ⟨⟨by show (srcsR bs).length ≤ _; rw [srcsR_len]; omega, by show (0 : Nat) ≤ _; omega, fun x hx => by cases hx⟩, by omega, by omega, rfl⟩

/-- A whole value into a block that is known whole. -/
theorem wp_stRow {P : Program} {w : World} {o : Oper} {a : Act} {K : Act → World → Prop} {Q : Exit → Act → World → Prop} {ty t : TypeId} {p x : Operand} {g : Nat} {old cs : Array Value} (ho : o.op = .store ty p x) (hp : a.eval p = .pointer (some ⟨g, 0, none⟩)) (hx : a.eval x = .agg cs) (hb : Blk w g t old)
    (hi : (P.info? ty).map (·.size) = some cs.size) (hs : old.size = cs.size) (h1 : cs.all (·.oneCell') = true) (h : ∀ w', Blk w' g t cs → Keep w w' (· = g) → K (a.put o.dst undef) w') : Oper.wp P o a w K Q := by
  have hr := run_storeVar_row (P := P) w g t ty old cs hb hi hs h1
  have hrr : (execOp a.eval o).run P w = .ok .skip (w.setRow g cs) := by
    unfold execOp
    simp only [ho, hp, hx, Instr.storeAt, Instr.sureAddr, Sem.run_bind, Sem.run_pure, Result.andThen_ok, hr]
  unfold Oper.wp
  rw [hrr]
  exact h _ (setRow_heap w g old cs t _ hb) ⟨rfl, rfl, rfl, by simp [World.setRow], fun k hk hne => setRow_other w g k _ (fun e => hne e)⟩
/-- A packet of the thin package stored over a block, cell by cell. -/
def st13 (w : World) (g : Nat) (h : Hd) (sv xv pv : Value) : World :=
  ((((((((((((w.setCell ⟨g, 0, none⟩ (.int .u8 h.v)).setCell ⟨g, 1, none⟩ (.bool h.pad)).setCell ⟨g, 2, none⟩ (.bool h.ext)).setCell ⟨g, 3, none⟩ (.bool h.mark)).setCell ⟨g, 4, none⟩ (.int .u8 h.ty)).setCell ⟨g, 5, none⟩ (.int .u16 h.seq)).setCell ⟨g, 6, none⟩ (.int .u32 h.time)).setCell ⟨g, 7, none⟩ (.int .u32 h.ssrc)).setCell ⟨g, 8, none⟩ sv).setCell ⟨g, 9, none⟩ (.int .u16 h.prof)).setCell ⟨g, 10, none⟩ xv).setCell ⟨g, 11, none⟩ (.int .u8 h.padn)).setCell ⟨g, 12, none⟩ pv
theorem st13_keep (w : World) (g : Nat) (h : Hd) (sv xv pv : Value) : Keep w (st13 w g h sv xv pv) (· = g) :=
  (((((((((((((Keep.refl w (· = g)).setg 0 (fun _ => rfl) _).setg 1 (fun _ => rfl) _).setg 2 (fun _ => rfl) _).setg 3 (fun _ => rfl) _).setg 4 (fun _ => rfl) _).setg 5 (fun _ => rfl) _).setg 6 (fun _ => rfl) _).setg 7 (fun _ => rfl) _).setg 8 (fun _ => rfl) _).setg 9 (fun _ => rfl) _).setg 10 (fun _ => rfl) _).setg 11 (fun _ => rfl) _).setg 12 (fun _ => rfl) _
theorem set13 (b0 b1 b2 b3 b4 b5 b6 b7 b8 b9 b10 b11 b12 a0 a1 a2 a3 a4 a5 a6 a7 a8 a9 a10 a11 a12 : Value) : (((((((((((((#[b0, b1, b2, b3, b4, b5, b6, b7, b8, b9, b10, b11, b12].setIfInBounds 0 a0).setIfInBounds 1 a1).setIfInBounds 2 a2).setIfInBounds 3 a3).setIfInBounds 4 a4).setIfInBounds 5 a5).setIfInBounds 6 a6).setIfInBounds 7 a7).setIfInBounds 8 a8).setIfInBounds 9 a9).setIfInBounds 10 a10).setIfInBounds 11 a11).setIfInBounds 12 a12) = #[a0, a1, a2, a3, a4, a5, a6, a7, a8, a9, a10, a11, a12] := by kernel_rfl
theorem st13_blk {w : World} {g : Nat} {t : TypeId} {h0 : Hd} {s0 x0 p0 : Value} (hb : Blk w g t (kcells h0 s0 x0 p0)) (h : Hd) (sv xv pv : Value) : Blk (st13 w g h sv xv pv) g t (kcells h sv xv pv) := by
  have H := ((((((((((((hb.set_ 0 (.int .u8 h.v)).set_ 1 (.bool h.pad)).set_ 2 (.bool h.ext)).set_ 3 (.bool h.mark)).set_ 4 (.int .u8 h.ty)).set_ 5 (.int .u16 h.seq)).set_ 6 (.int .u32 h.time)).set_ 7 (.int .u32 h.ssrc)).set_ 8 sv).set_ 9 (.int .u16 h.prof)).set_ 10 xv).set_ 11 (.int .u8 h.padn)).set_ 12 pv
  unfold kcells at H
  rw [set13] at H
  exact H
end Go.Proofs.YtdmnflngafbobaaDoor
namespace Go.Proofs.YtdmnflngafbobaaDoor
open Go.RowKit
set_option linter.unusedVariables false
set_option linter.unusedSimpArgs false
set_option maxRecDepth 100000

theorem BL.pre {w : World} {g : Nat} {t : TypeId} {h : Hd} {sv xv : Value} {rest : List Value} (hb : BL w g t (uc h sv xv rest)) : Pre w g (rcells h sv xv 0) := by
  refine ⟨t, _, hb, fun i v hv => ?_⟩
  have e : rcells h sv xv 0 = (uc h sv xv []).toArray := rfl
  have e2 : uc h sv xv rest = uc h sv xv [] ++ rest := rfl
  rw [e] at hv
  simp only [List.getElem?_toArray] at hv ⊢
  rw [e2, List.getElem?_append_left (List.getElem?_eq_some_iff.1 hv).1]
  exact hv

theorem readP_len {bs : List Int} {h : Hd} {pay : List Int} (hr : readP bs = .good h pay) : pay.length ≤ bs.length := by
  unfold readP at hr
  split at hr
  · cases hr
  · cases hr
  · split at hr
    · cases hr; simp
    · split at hr
      · cases hr
      · split at hr
        · cases hr
        · split at hr
          · cases hr
          · cases hr; simp; omega
/-- What Parse's closure leaves. -/
def PaPost (bs : List Int) (w : World) (g2 : Nat) (e : Ending) (w' : World) : Prop :=
  ∃ (ok : Bool) (hd : Hd) (pay : List Int) (sv xv : Value) (A : Option Addr) (c : Nat), e = .returned (.bool ok) ∧ Keep w w' (· = g2) ∧ Blk w' g2 42 (kcells hd sv xv (.slice A pay.length c)) ∧ PV w' (w.heap.size ≤ ·) (.agg (kcells hd sv xv (.slice A pay.length c))) hd pay ∧ Hs hd ∧
    ((ok = true ∧ readP bs = .good hd pay) ∨ (ok = false ∧ readP bs = .bad))

set_option maxHeartbeats 3200000 in
theorem parse1 {p : Nat → Prop} {bs : List Int} {n c g1 g2 : Nat} {A : Option Addr} (w : World) (hR : Rd w p 1 (.slice A n c) n (B8 bs)) (hI : IsB bs) (hn : n ≤ 2147483647) (h1 : Blk w g1 29 #[.slice A n c]) (h2 : Blk w g2 42 (kcells hd0 (.slice none 0 0) (.slice none 0 0) (.slice none 0 0)))
    (he : Errs w) (hs : HsSpec bs) (hu : UnSpec bs) (hv : readP bs ≠ .wide) :
    Calls Tryd.prog 63 #[.pointer (some ⟨g1, 0, none⟩), .pointer (some ⟨g2, 0, none⟩)] w (PaPost bs w g2) := by
  have hl : bs.length = n := by have := hR.len; rwa [B8_len] at this
  replace hR := hR.mono (q := (· < w.heap.size)) (fun k hk _ => hk)
  have HL := hide hl
  have HR := hide hR
  have HI := hide hI
  have HE := hide he
  have HS := hide hs
  have HU := hide hu
  have HV := hide hv
  have H1 := hide h1
  have H2 := hide h2
  have lg1 := h1.lt
  have lg2 := h2.lt
  clear hl hR hI he hs hu hv h1 h2
  go_enter Tryd.func63, Tryd.ntmps63
  go_upto_region 2 with fail
  generalize hwa : World.alloc w _ = wa
  have BX := hide (show BL wa w.heap.size 110 (uc hd0 (.slice none 0 0) (.slice none 0 0) [.slice none 0 0, .int .u8 0, .slice none 0 0]) by subst hwa; exact Blk.new w _ _)
  have KA := hide (show Keep w wa Nul by subst hwa; exact (Keep.refl w Nul).alloc _)
  have hza : wa.heap.size = w.heap.size + 1 := by subst hwa; simp [World.size_alloc]
  have HZA := hide hza
  clear hwa hza
  have c1 := (H1.out.keep KA.out id).cell 0 (v := .slice A n c) rfl
  have hC := hide (clone_b wa (HR.out.keep0 KA.out) (B8_one _) (by omega))
  go_wp2_with fail
  refine (hC.out).mono ?_
  rintro e w1 ⟨v1, rfl, o1, k1, -⟩
  obtain ⟨A1, c1', rfl⟩ := o1.rd.shape
  have O1 := hide o1
  have K1 := hide (KA.out.trans0 k1)
  have BX1 := hide (BX.out.keep k1 id)
  have hz1 := k1.size
  have hat := o1.at_
  clear o1 k1 c1
  have hqg : ¬ (w1.heap.size ≤ w.heap.size ∨ (Value.slice A1 n c1').ownBlock = some w.heap.size) := by
    have h0 := HZA.out
    intro hq
    rcases hq with hq | hq
    · omega
    · have := (hat _ hq).1
      omega
  have hpx : ∀ i, (Value.slice A1 n c1').ownBlock = some i → i ≠ w.heap.size := fun i hi e => by have := (hat i hi).1; have := HZA.out; omega
  have hgl : ¬ Glob w.heap.size := fun hg => by have := HE.out.lt hg; omega
  have hUn := HU.out _ w1 n c1' w.heap.size A1 _ _ O1.out.rd hn (fun i hi => ⟨hpx i hi, (hat i hi).2.1⟩) BX1.out (HE.out.keep0 K1.out) hgl
  have hPW := hide (pun_walk (p := fun k => (Value.slice A1 n c1').ownBlock = some k) (q := fun k => w1.heap.size ≤ k ∨ (Value.slice A1 n c1').ownBlock = some k) (g := w.heap.size) w1 O1.out.rd HI.out hn hpx (fun i hi => .inr hi) (HE.out.keep0 K1.out) hgl hqg (fun h m hr => by have := HS.out h m hr; rw [HL.out] at this; exact this) HV.out hUn)
  clear hUn hqg hpx hgl
  go_wp2_with fail
  refine (hPW.out).mono ?_
  rintro e w2 hpost
  obtain ⟨ev, hd, pay, ok, rfl, hhs, hup, k2, hev, hrd, hpl⟩ : ∃ ev hd pay ok, e = .returned ev ∧ Hs hd ∧ UP w2 (fun k => w1.heap.size ≤ k ∨ (Value.slice A1 n c1').ownBlock = some k) w.heap.size hd pay ∧ Keep w1 w2 (· = w.heap.size) ∧ ((ok = true ∧ ev = Value.nilIface) ∨ (ok = false ∧ ∃ te ve, ev = .iface te ve)) ∧ ((ok = true ∧ readP bs = .good hd pay) ∨ (ok = false ∧ readP bs = .bad)) ∧ pay.length ≤ 2147483647 := by
    rcases hpost with ⟨h, pay, q1, q2, q3, q4, q5⟩ | ⟨q1, te, ve, h, q2, q3, q4, q5⟩
    · exact ⟨_, h, pay, true, q3, q2, q4, q5, .inl ⟨rfl, rfl⟩, .inl ⟨rfl, q1⟩, by have := readP_len q1; have := HL.out; omega⟩
    · exact ⟨_, h, [], false, q3, q2, q4, q5, .inr ⟨rfl, te, ve, rfl⟩, .inr ⟨rfl, q1⟩, by simp⟩
  obtain ⟨sv, xv, pv, ps, hB, r1, r2, r3⟩ := hup
  obtain ⟨A5, c5, rfl⟩ := r3.shape
  have HHS := hide hhs
  have HEV := hide hev
  have HRD := hide hrd
  have R1 := hide r1
  have R2 := hide r2
  have R3 := hide r3
  have K2 := hide (K1.out.trans k2 (fun i hi e => by omega))
  have B2 := hide hB
  have hz2 := k2.size
  clear hpost hhs hev hrd r1 r2 r3 k2 hB
  have BPre := hide (show Pre w2.drew w.heap.size (rcells hd sv xv 0) from B2.out.pre)
  have hgx : ¬ w.heap.size = g2 := by omega
  have hPl := hide (iplain_walk w2.drew BPre.out (R1.out.drew) (R2.out.keep0 ((Keep.refl w2 Nul).drew)) HHS.out.2.1 HHS.out.1 HHS.out.2.2)
  have HPL := hide hpl
  obtain ⟨m, hm⟩ : ∃ m, m = pay.length := ⟨_, rfl⟩
  have HM := hide hm
  rw [← hm] at B2 R3 hpl
  clear hm
  have HCl := hide (fun (w3 : World) (k : Keep w2.drew w3 Nul) => clone_b w3 (R3.out.drew.keep0 k) (B8_one _) (by omega))
  have z13 := B2.out.drew.cell 13 (v := .slice A5 m c5) rfl
  have hg2x : ¬ g2 = w.heap.size := fun e => hgx e.symm
  have H2w := hide ((H2.out.keep K2.out (fun e => e)).drew)
  clear hat
  go_upto_region 3 with fail
  refine wp_region_noPanic ?_
  refine region_last' (S := fun w' => w'.cell? ⟨w.heap.size, 13, none⟩ = some (.slice A5 m c5)) (by kernel_rfl) (by kernel_rfl) (by simp only [List.dropLast_cons_cons, List.dropLast_singleton]; rfl) (by simp only [List.getLast?_cons_cons, List.getLast?_singleton]; rfl) (z13) (fun hHeld => ?_)
  simp only [List.length_cons, List.length_nil, Nat.reduceAdd, Nat.zero_add]
  refine wpAnyH_take (i := 0) (v := ?_) (by simp only [List.getElem?_toArray, List.getElem?_cons_succ, List.getElem?_cons_zero]; rfl) (by kernel_rfl) (by kernel_rfl) (by kernel_rfl) (fun _ _ _ h => h) (Or.inl ⟨by rfl, ?_⟩) (by assumption) ?_
  rotate_left 1
  · (intro w hSw; (try dsimp only at hSw); go_simp; (try with_reducible rfl))
  try simp only [Act.put, List.setIfInBounds_toArray, List.set_cons_zero, List.set_cons_succ]
  refine wpAnyH_take (i := 2) (v := ?_) (by simp only [List.getElem?_toArray, List.getElem?_cons_succ, List.getElem?_cons_zero]; rfl) (by kernel_rfl) (by kernel_rfl) (by kernel_rfl) (fun _ _ _ h => h) (Or.inl ⟨by rfl, ?_⟩) (by assumption) ?_
  rotate_left 1
  · (intro w hSw; (try dsimp only at hSw); go_simp; (try with_reducible rfl))
  try simp only [Act.put, List.setIfInBounds_toArray, List.set_cons_zero, List.set_cons_succ]
  refine wpAnyH_take (i := 3) (v := ?_) (by simp only [List.getElem?_toArray, List.getElem?_cons_succ, List.getElem?_cons_zero]; rfl) (by kernel_rfl) (by kernel_rfl) (by kernel_rfl) (fun _ _ _ h => h) (Or.inl ⟨by rfl, ?_⟩) (by assumption) ?_
  rotate_left 1
  · (intro w hSw; (try dsimp only at hSw); go_simp; (try with_reducible rfl))
  try simp only [Act.put, List.setIfInBounds_toArray, List.set_cons_zero, List.set_cons_succ]
  refine wpAnyH_ready (rs := [1]) (by kernel_rfl) (by simp) ?_
  refine AllReadyH.cons (by simp only [List.getElem?_toArray, List.getElem?_cons_succ, List.getElem?_cons_zero]; rfl) (fun K hK => ?_) AllReadyH.nil
  go_simp
  go_at_call 66
  refine (hPl.out).mono ?_
  rintro e w3 ⟨k3, sv', xv', rfl, hv3⟩
  have K3 := hide k3
  have z14 := (B2.out.drew.keep k3 id).cell 13 (v := .slice A5 m c5) rfl
  obtain ⟨p1, p2⟩ := hv3.parts
  obtain ⟨A6, c6, rfl⟩ := p1.shape
  obtain ⟨A7, c7, rfl⟩ := p2.shape
  have P1 := hide p1
  have P2 := hide p2
  clear k3 hv3 p1 p2
  simp only []
  refine hK.out _ _ (z14) (fun hHeld => ?_)
  clear hK K
  try simp only [Act.put, List.setIfInBounds_toArray, List.set_cons_zero, List.set_cons_succ]
  refine wpAnyH_ready (rs := [4]) (by kernel_rfl) (by simp) ?_
  refine AllReadyH.cons (by simp only [List.getElem?_toArray, List.getElem?_cons_succ, List.getElem?_cons_zero]; rfl) (fun K hK => ?_) AllReadyH.nil
  go_simp
  go_at_call 65
  refine (HCl.out _ K3.out).mono ?_
  rintro e w4 ⟨v4, rfl, o4, k4, -⟩
  obtain ⟨A8, c8, rfl⟩ := o4.rd.shape
  have K4 := hide (K3.out.trans0 k4)
  have K34 := hide k4
  have O4 := hide o4
  have z15 := (B2.out.drew.keep K4.out id).cell 13 (v := .slice A5 m c5) rfl
  have H2x := hide (H2w.out.keep K4.out id)
  clear k4 o4
  simp only []
  refine hK.out _ _ (z15) (fun hHeld => ?_)
  clear hK K
  try simp only [Act.put, List.setIfInBounds_toArray, List.set_cons_zero, List.set_cons_succ]
  unfold hcells
  refine wpAnyH_take (i := 5) (v := ?_) (by simp only [List.getElem?_toArray, List.getElem?_cons_succ, List.getElem?_cons_zero]; rfl) (by kernel_rfl) (by kernel_rfl) (by kernel_rfl) (fun _ _ _ h => h) (Or.inl ⟨by rfl, ?_⟩) (by assumption) ?_
  rotate_left 1
  · (intro w hSw; (try dsimp only at hSw); go_simp; (try with_reducible rfl))
  try simp only [Act.put, List.setIfInBounds_toArray, List.set_cons_zero, List.set_cons_succ]
  refine wpAnyH_done (by kernel_rfl) ?_ _
  intro K hK
  refine wp_stRow rfl rfl rfl H2x.out (by kernel_rfl) rfl (by simp [Value.oneCell']) ?_
  intro w5 b5 k5
  refine hK _ _ (NoPanic.normal ?_)
  clear hK K
  have B5 := hide b5
  have K5 := hide k5
  have hzd : w.heap.size ≤ w2.drew.heap.size := Nat.le_trans K1.out.size hz2
  have KE := hide (show Keep w w5 (· = g2) from (((K2.out.nul (· = g2)).trans0 ((Keep.refl w2 Nul).drew)).trans0 K4.out).trans k5 fun _ _ e => e)
  have q1 : Rd w5 (w.heap.size ≤ ·) 1 (.slice A6 hd.srcs.length c6) hd.srcs.length (U32 hd.srcs) := ((P1.out.keep0 K34.out).keep k5 (fun i hi hp e => by have : w2.drew.heap.size ≤ i := hp; omega)).mono (fun k _ hk => Nat.le_trans hzd hk)
  have q2 : XR w5 (w.heap.size ≤ ·) (.slice A7 hd.exts.length c7) hd.exts := ((P2.out.keep0 K34.out).keep k5 (fun i hi hp e => by have : w2.drew.heap.size ≤ i := hp; omega)).mono (fun k _ hk => Nat.le_trans hzd hk)
  have hz3 := K3.out.size
  have q3 : Rd w5 (w.heap.size ≤ ·) 1 (.slice A8 m c8) m (B8 pay) := (O4.out.rdB.keep k5 (fun i hi hp e => by have : w3.heap.size ≤ i := hp; omega)).mono (fun k _ hk => Nat.le_trans hzd (Nat.le_trans hz3 hk))
  have Q1 := hide q1
  have Q2 := hide q2
  have Q3 := hide q3
  clear b5 k5 q1 q2 q3 z13 z14 z15 hHeld
  rcases HEV.out with ⟨hok, hev⟩ | ⟨hok, te, ve, hev⟩
  all_goals
    subst hev
    have HOK := hide hok
    clear hok
    go_wp2_with fail
    go_ret
    obtain rfl := HM.out
    refine ⟨_, hd, pay, _, _, A8, c8, rfl, KE.out, B5.out, ⟨_, _, A8, c8, rfl, Q1.out, Q2.out, Q3.out⟩, HHS.out, ?_⟩
    have h1 := HRD.out
    rw [HOK.out] at h1
    simpa using h1
end Go.Proofs.YtdmnflngafbobaaDoor
namespace Go.Proofs.YtdmnflngafbobaaDoor
open Go.RowKit
set_option linter.unusedVariables false
set_option linter.unusedSimpArgs false
set_option maxRecDepth 100000

theorem wpList_stRow {P : Program} {w : World} {ops : Array Oper} {rest : List Oper} {o : Oper} {a : Act} {Q : Exit → Act → World → Prop} {ty t : TypeId} {g : Nat} {old cs : Array Value} (hgd : o.guard = none) (p x : Operand) (ho : o.op = .store ty p x) (hp : a.eval p = .pointer (some ⟨g, 0, none⟩)) (hx : a.eval x = .agg cs) (hb : Blk w g t old)
    (hi : (P.info? ty).map (·.size) = some cs.size) (hs : old.size = cs.size) (h1 : cs.all (·.oneCell') = true) (h : ∀ w', Blk w' g t cs → Keep w w' (· = g) → wpList P ops Q rest (a.put o.dst undef) w') : wpList P ops Q (o :: rest) a w :=
  wpList_plain hgd fun K hK => wp_stRow ho hp hx hb hi hs h1 fun w' hb' hk' => hK _ _ (h w' hb' hk')

theorem PV.keep {w w' : World} {p S : Nat → Prop} {v : Value} {hd : Hd} {data : List Int} (h : PV w p v hd data) (k : Keep w w' S) (hp : ∀ i, i < w.heap.size → p i → ¬ S i) : PV w' p v hd data := by
  obtain ⟨sv, xv, A, c, e, h1, h2, h3⟩ := h
  exact ⟨sv, xv, A, c, e, h1.keep k hp, h2.keep k hp, h3.keep k hp⟩
theorem PV.mono {w : World} {p q : Nat → Prop} {v : Value} {hd : Hd} {data : List Int} (h : PV w p v hd data) (hp : ∀ k, k < w.heap.size → p k → q k) : PV w q v hd data := by
  obtain ⟨sv, xv, A, c, e, h1, h2, h3⟩ := h
  exact ⟨sv, xv, A, c, e, h1.mono hp, h2.mono hp, h3.mono hp⟩

theorem PV.parts {w : World} {p : Nat → Prop} {hd : Hd} {data : List Int} {sv xv : Value} {A : Option Addr} {c : Nat} (h : PV w p (.agg (kcells hd sv xv (.slice A data.length c))) hd data) : Rd w p 1 sv hd.srcs.length (U32 hd.srcs) ∧ XR w p xv hd.exts ∧ Rd w p 1 (.slice A data.length c) data.length (B8 data) := by
  obtain ⟨s', x', A'', c'', e', r1, r2, r3⟩ := h
  injection e' with e'
  have es : sv = s' := by have := congrArg (fun a : Array Value => a[8]?) e'; simpa [kcells] using this
  have ex : xv = x' := by have := congrArg (fun a : Array Value => a[10]?) e'; simpa [kcells] using this
  have ep : Value.slice A data.length c = .slice A'' data.length c'' := by have := congrArg (fun a : Array Value => a[12]?) e'; simpa [kcells] using this
  injection ep with e1 _ e3
  subst es ex e1 e3
  exact ⟨r1, r2, r3⟩
/-- What impl.try over Parse's closure leaves. -/
theorem parse_try {p : Nat → Prop} {bs : List Int} {n c : Nat} {A : Option Addr} (w : World) (hR : Rd w p 1 (.slice A n c) n (B8 bs)) (hI : IsB bs) (hn : n ≤ 2147483647) (he : Errs w) (hs : HsSpec bs) (hu : UnSpec bs) (hv : readP bs ≠ .wide) (ok : Bool) (hok : ok = true ↔ readP bs ≠ .bad) :
    Calls Tryd.prog 52 #[.func (.func 63) #[] #[.pointer (some ⟨w.heap.size, 0, none⟩), .pointer (some ⟨w.heap.size + 1, 0, none⟩)]] ((w.alloc (.cells #[.slice A n c] 29)).alloc (.cells (kcells hd0 (.slice none 0 0) (.slice none 0 0) (.slice none 0 0)) 42)) fun e w' =>
      e = .returned (.bool ok) ∧ Keep ((w.alloc (.cells #[.slice A n c] 29)).alloc (.cells (kcells hd0 (.slice none 0 0) (.slice none 0 0) (.slice none 0 0)) 42)) w' (· = w.heap.size + 1) ∧
      ∃ (hd : Hd) (pay : List Int) (sv xv : Value) (A' : Option Addr) (c' : Nat), Blk w' (w.heap.size + 1) 42 (kcells hd sv xv (.slice A' pay.length c')) ∧ PV w' (w.heap.size + 3 ≤ ·) (.agg (kcells hd sv xv (.slice A' pay.length c'))) hd pay ∧ Hs hd ∧ (ok = true → readP bs = .good hd pay) := by
  have b1 := (Blk.new w 29 #[.slice A n c]).alloc (.cells (kcells hd0 (.slice none 0 0) (.slice none 0 0) (.slice none 0 0)) 42)
  have b2 := Blk.new (w.alloc (.cells #[.slice A n c] 29)) 42 (kcells hd0 (.slice none 0 0) (.slice none 0 0) (.slice none 0 0))
  simp only [World.size_alloc] at b2
  have kW : Keep w ((w.alloc (.cells #[.slice A n c] 29)).alloc (.cells (kcells hd0 (.slice none 0 0) (.slice none 0 0) (.slice none 0 0)) 42)) Nul := ((Keep.refl w _).alloc _).alloc _
  refine try_out (k := 63) (g2 := w.heap.size + 1) (b := ok) (fun _ => by kernel_rfl) (by simp only [World.size_alloc]; omega) ?_ ?_
  · rintro w1 w2 ⟨hd, pay, sv, xv, A', c', h1, h2, h3, h4⟩ k
    simp only [World.size_alloc] at k
    exact ⟨hd, pay, sv, xv, A', c', h1.keep k (by omega), h2.keep k (fun i hi hp e => by have : w.heap.size + 3 ≤ i := hp; omega), h3, h4⟩
  · refine (parse1 _ (hR.keep0 (kW.alloc (.cells #[.bool false] 4))) hI hn (b1.alloc (.cells #[.bool false] 4)) (b2.alloc (.cells #[.bool false] 4)) (he.keep0 (kW.alloc (.cells #[.bool false] 4))) hs hu hv).mono ?_
    rintro e w' ⟨ok', hd, pay, sv, xv, A', c', rfl, hk, hb, hpv, hhs, hr⟩
    simp only [World.size_alloc] at hpv
    have hoo : ok' = ok := by
      rcases hr with ⟨rfl, h⟩ | ⟨rfl, h⟩
      · exact (hok.2 (by rw [h]; exact fun e => by cases e)).symm
      · cases ok
        · rfl
        · exact absurd h (hok.1 rfl)
    subst hoo
    refine ⟨rfl, hk, hd, pay, sv, xv, A', c', hb, hpv, hhs, fun h => ?_⟩
    rcases hr with ⟨_, h'⟩ | ⟨h', _⟩
    · exact h'
    · rw [h] at h'; cases h'

set_option maxHeartbeats 1600000 in
/-- impl.Parse of a packet that is read. -/
theorem parse_good {p : Nat → Prop} {bs : List Int} {n c : Nat} {A : Option Addr} {hd : Hd} {pay : List Int} (w : World) (hR : Rd w p 1 (.slice A n c) n (B8 bs)) (hI : IsB bs) (hn : n ≤ 2147483647) (he : Errs w) (hs : HsSpec bs) (hu : UnSpec bs) (hg : readP bs = .good hd pay) :
    Calls Tryd.prog 25 #[.slice A n c] w fun e w' => Keep w w' Nul ∧ Hs hd ∧ ∃ sv xv A' c', e = .returned (.tuple #[.agg (kcells hd sv xv (.slice A' pay.length c')), .bool true]) ∧ PV w' (w.heap.size ≤ ·) (.agg (kcells hd sv xv (.slice A' pay.length c'))) hd pay := by
  have hT := hide (parse_try w hR hI hn he hs hu (by rw [hg]; exact (fun e => by cases e)) true ⟨fun _ => (by rw [hg]; exact (fun e => by cases e)), fun _ => rfl⟩)
  have HG := hide hg
  clear hR hI he hs hu hg
  go_enter Tryd.func25, Tryd.ntmps25
  go_wp2_with fail
  refine Calls.mono (show Calls _ _ _ _ _ from hT.out) ?_
  rintro e w1 ⟨rfl, hk, hd', pay', sv, xv, A', c', hb, hpv, hhs, hr⟩
  have he := hr (by trivial)
  rw [HG.out] at he
  cases he
  obtain ⟨q1, q2, q3⟩ := hpv.parts
  obtain ⟨A1, c1, rfl⟩ := q1.shape
  obtain ⟨A2, c2, rfl⟩ := q2.shape
  have HB := hide hb
  have HK := hide hk
  have HPV := hide hpv
  have HHS := hide hhs
  obtain ⟨m, hm⟩ : ∃ m, m = pay.length := ⟨_, rfl⟩
  have HM := hide hm
  rw [← hm] at HB
  obtain ⟨x0, x1, x2, x3, x4, x5, x6, x7, x8, x9, x10, x11, x12⟩ := kc13 HB.out
  clear hb hk hpv hhs hr q1 q2 q3 hm
  go_wp2_with (refine wpList_stRow rfl _ _ rfl rfl rfl HB.out (by kernel_rfl) rfl (by simp [Value.oneCell']) ?_; intro w2 hb2 hk2; have HB2 := hide hb2; have HK2 := hide hk2; clear hb2 hk2)
  have KF := hide (show Keep w w2 Nul from ((((Keep.refl w Nul).alloc _).alloc _).trans HK.out (fun i hi e => by omega)).trans HK2.out (fun i hi e => by omega))
  obtain ⟨y0, y1, y2, y3, y4, y5, y6, y7, y8, y9, y10, y11, y12⟩ := kc13 (show Blk w2 (w.heap.size + 1) 42 (kcells hd (.slice A1 hd.srcs.length c1) (.slice A2 hd.exts.length c2) (.slice A' m c')) from HB2.out)
  clear x0 x1 x2 x3 x4 x5 x6 x7 x8 x9 x10 x11 x12
  refine bodyPost_ret (v := .tuple #[.agg (kcells hd (.slice A1 hd.srcs.length c1) (.slice A2 hd.exts.length c2) (.slice A' m c')), .bool true]) (by unfold kcells; simp [results, Tryd.results25, go_sem, y0, y1, y2, y3, y4, y5, y6, y7, y8, y9, y10, y11, y12]) rfl ?_
  obtain rfl := HM.out
  exact ⟨KF.out, HHS.out, _, _, _, _, rfl, (HPV.out.keep HK2.out (fun i hi hp e => by have : w.heap.size + 3 ≤ i := hp; omega)).mono (fun k _ hk => by have : w.heap.size + 3 ≤ k := hk; omega)⟩

set_option maxHeartbeats 1600000 in
/-- impl.Parse of bytes that are no packet. -/
theorem parse_bad {p : Nat → Prop} {bs : List Int} {n c : Nat} {A : Option Addr} (w : World) (hR : Rd w p 1 (.slice A n c) n (B8 bs)) (hI : IsB bs) (hn : n ≤ 2147483647) (he : Errs w) (hs : HsSpec bs) (hu : UnSpec bs) (hg : readP bs = .bad) :
    Calls Tryd.prog 25 #[.slice A n c] w fun e w' => Keep w w' Nul ∧ e = .returned (.tuple #[.agg (kcells hd0 (.slice none 0 0) (.slice none 0 0) (.slice none 0 0)), .bool false]) := by
  have hT := hide (parse_try w hR hI hn he hs hu (by rw [hg]; exact (fun e => by cases e)) false ⟨fun h => (by cases h), fun h => absurd hg h⟩)
  clear hR hI he hs hu hg
  go_enter Tryd.func25, Tryd.ntmps25
  go_wp2_with fail
  refine Calls.mono (show Calls _ _ _ _ _ from hT.out) ?_
  rintro e w1 ⟨rfl, hk, hd', pay', sv, xv, A', c', hb, -, -, -⟩
  have HB := hide hb
  have HK := hide hk
  clear hb hk
  go_wp2_with (refine wpList_stRow rfl _ _ rfl rfl rfl HB.out (by kernel_rfl) rfl (by simp [Value.oneCell']) ?_; intro w2 hb2 hk2; have HB2 := hide hb2; have HK2 := hide hk2; clear hb2 hk2)
  have KF := hide (show Keep w w2 Nul from ((((Keep.refl w Nul).alloc _).alloc _).trans HK.out (fun i hi e => by omega)).trans HK2.out (fun i hi e => by omega))
  obtain ⟨y0, y1, y2, y3, y4, y5, y6, y7, y8, y9, y10, y11, y12⟩ := kc13 (show Blk w2 (w.heap.size + 1) 42 (kcells hd0 (.slice none 0 0) (.slice none 0 0) (.slice none 0 0)) from HB2.out)
  refine bodyPost_ret (v := .tuple #[.agg (kcells hd0 (.slice none 0 0) (.slice none 0 0) (.slice none 0 0)), .bool false]) (by unfold kcells hd0 at *; simp [results, Tryd.results25, go_sem, y0, y1, y2, y3, y4, y5, y6, y7, y8, y9, y10, y11, y12]) rfl ?_
  exact ⟨KF.out, rfl⟩
end Go.Proofs.YtdmnflngafbobaaDoor
