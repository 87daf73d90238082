/-
  A block of extensions, read from a place on. Conditions: those that stand in each theorem.
-/
import Derived.Test.YtdmnflngafbobaaDoorGUn
import Derived.Test.YtdmnflngafbobaaDoorGiven
import Derived.Test.YtdmnflngafbobaaDoorGPun
import Derived.Deep.DeepCutAuto
import Derived.Deep.QuietTactic
import Derived.BigQuiet
namespace Go.Proofs.YtdmnflngafbobaaDoor
open Go.RowKit
set_option linter.unusedVariables false
set_option linter.unusedSimpArgs false

/-- The bytes from P up to E. -/
def pieceB (bs : List Int) (P E : Nat) : List Int := (bs.drop P).take (E - P)
section
variable {bs : List Int} {P E : Nat}
theorem piece_nil (bs : List Int) (P : Nat) : pieceB bs P P = [] := by simp [pieceB]
theorem piece_len (hE : E ≤ bs.length) : (pieceB bs P E).length = E - P := by simp [pieceB]; omega
theorem piece_cons (h : P < E) (hE : E ≤ bs.length) : pieceB bs P E = g8 bs P :: pieceB bs (P + 1) E := by
  have h1 : P < bs.length := by omega
  have h2 : g8 bs P = bs[P] := by
    have := g8_of h1
    rw [List.getElem?_eq_getElem h1] at this
    injection this with this
    exact this.symm
  unfold pieceB
  rw [List.drop_eq_getElem_cons h1, show E - P = (E - (P + 1)) + 1 by omega, List.take_succ_cons, h2]
theorem piece_drop (m : Nat) : (pieceB bs P E).drop m = pieceB bs (P + m) E := by
  unfold pieceB
  rw [List.drop_take, List.drop_drop, show E - P - m = E - (P + m) by omega]
theorem piece_take {m : Nat} (h : P + m ≤ E) : (pieceB bs P E).take m = (bs.drop P).take m := by
  unfold pieceB
  rw [List.take_take, Nat.min_eq_left (by omega)]

theorem step_zero {two : Bool} {ys : List Ex} (h : P < E) (hE : E ≤ bs.length) (h0 : g8 bs P = 0) (hr : rx two (pieceB bs P E) = some ys) : rx two (pieceB bs (P + 1) E) = some ys := by
  rw [piece_cons h hE, h0, rx_zero] at hr
  exact hr
theorem step_one {ys : List Ex} (h : P < E) (hE : E ≤ bs.length) (h0 : g8 bs P ≠ 0) (hr : rx false (pieceB bs P E) = some ys) :
    P + 1 + ((g8 bs P % 16).toNat + 1) ≤ E ∧ g8 bs P / 16 ≠ 15 ∧ g8 bs P / 16 ≠ 0 ∧
    ∃ ys', ys = ⟨g8 bs P / 16, (bs.drop (P + 1)).take ((g8 bs P % 16).toNat + 1)⟩ :: ys' ∧ rx false (pieceB bs (P + 1 + ((g8 bs P % 16).toNat + 1)) E) = some ys' := by
  rw [piece_cons h hE, rx_one _ _ h0] at hr
  split at hr
  · cases hr
  · rename_i hc
    have hl := piece_len (P := P + 1) hE
    have hle : P + 1 + ((g8 bs P % 16).toNat + 1) ≤ E := by omega
    rw [piece_drop, piece_take hle] at hr
    refine ⟨hle, by omega, by omega, ?_⟩
    cases hq : rx false (pieceB bs (P + 1 + ((g8 bs P % 16).toNat + 1)) E) with
    | none => rw [hq] at hr; cases hr
    | some ys' =>
      rw [hq] at hr
      injection hr with hr
      exact ⟨ys', hr.symm, rfl⟩
theorem step_two {ys : List Ex} (h : P < E) (hE : E ≤ bs.length) (h0 : g8 bs P ≠ 0) (hr : rx true (pieceB bs P E) = some ys) :
    P + 1 < E ∧ P + 2 + (g8 bs (P + 1)).toNat ≤ E ∧
    ∃ ys', ys = ⟨g8 bs P, (bs.drop (P + 2)).take (g8 bs (P + 1)).toNat⟩ :: ys' ∧ rx true (pieceB bs (P + 2 + (g8 bs (P + 1)).toNat) E) = some ys' := by
  rw [piece_cons h hE] at hr
  by_cases h1 : P + 1 < E
  · rw [piece_cons h1 hE, rx_two _ _ _ h0] at hr
    split at hr
    · cases hr
    · rename_i hc
      have hl := piece_len (P := P + 1 + 1) hE
      have hle : P + 2 + (g8 bs (P + 1)).toNat ≤ E := by omega
      rw [piece_drop, piece_take hle] at hr
      refine ⟨h1, hle, ?_⟩
      cases hq : rx true (pieceB bs (P + 2 + (g8 bs (P + 1)).toNat) E) with
      | none => rw [hq] at hr; cases hr
      | some ys' =>
        rw [hq] at hr
        injection hr with hr
        exact ⟨ys', hr.symm, rfl⟩
  · have e : P + 1 = E := by omega
    rw [e, piece_nil, rx_two1 _ h0] at hr
    cases hr
/-- No more extensions than bytes. -/
theorem readX_count (two : Bool) : ∀ (k : Nat) (l : List Int) (ys : List Ex), readX two k l = some ys → ys.length ≤ k ∧ ∀ x ∈ ys, x.data.length ≤ l.length
  | 0, l, ys, h => by simp only [readX] at h; injection h with h; subst h; exact ⟨Nat.le_refl _, fun x hx => by cases hx⟩
  | k + 1, [], ys, h => by simp only [readX] at h; injection h with h; subst h; exact ⟨Nat.zero_le _, fun x hx => by cases hx⟩
  | k + 1, b :: l, ys, h => by
    have hrec : ∀ (l' : List Int) (z : Ex), l'.length ≤ l.length → z.data.length ≤ l.length → (readX two k l').map (z :: ·) = some ys → ys.length ≤ k + 1 ∧ ∀ x ∈ ys, x.data.length ≤ (b :: l).length := by
      intro l' z hl hz hm
      cases hq : readX two k l' with
      | none => rw [hq] at hm; cases hm
      | some ys' =>
        rw [hq] at hm
        injection hm with hm
        subst hm
        obtain ⟨h1, h2⟩ := readX_count two k l' ys' hq
        refine ⟨by simp; omega, fun x hx => ?_⟩
        rcases List.mem_cons.1 hx with rfl | hx
        · simp; omega
        · have := h2 x hx; simp; omega
    unfold readX at h
    split at h
    · obtain ⟨h1, h2⟩ := readX_count two k l ys h
      exact ⟨by omega, fun x hx => by have := h2 x hx; simp; omega⟩
    · split at h
      · cases l with
        | nil => cases h
        | cons n r =>
          simp only at h
          split at h
          · cases h
          · exact hrec _ _ (by simp; omega) (by simp; omega) h
      · split at h
        · cases h
        · exact hrec _ _ (by simp) (by simp; omega) h
end
end Go.Proofs.YtdmnflngafbobaaDoor
namespace Go.Proofs.YtdmnflngafbobaaDoor
open Go.RowKit
set_option linter.unusedVariables false
set_option linter.unusedSimpArgs false
set_option maxRecDepth 100000

set_option maxHeartbeats 1600000 in
theorem un_p59 {p : Nat → Prop} {g gx B P m : Nat} {i : Int} {data : List Int} {t : TypeId} {rest : List Value} {sv xv dv : Value} {h : Hd} {done : List Ex} {ds : List Value} {Q : Exit → Act → World → Prop} (w : World) (u1 u2 u3 u5 u6 u7 u8 u9 u10 u11 u12 u13 u15 u17 u18 u19 u20 u21 u22 u23 u24 u25 u26 u27 u28 u29 u30 u31 u32 u33 u34 u35 u36 u37 u38 u39 u40 u41 u42 u43 u44 u45 u46 u47 u48 u49 u50 u51 u52 u53 u54 u55 u56 u57 u58 u59 u60 u61 u62 u63 u64 u65 u66 u67 u68 u69 u70 u71 u72 u73 u74 u75 u76 u77 u78 u79 u80 u81 u82 u83 u84 u85 u86 u87 u88 u89 u90 u91 u92 u93 u94 u95 u96 u97 u98 u99 u100 u101 u102 u103 u104 u105 u106 u107 u108 u109 u110 u111 u112 u113 u114 u115 u116 u117 u118 u119 u120 u121 u122 u123 u124 u125 u126 u127 u128 u129 u130 u131 u132 u133 u134 u135 u136 u137 u138 u139 u140 u141 u142 u143 u144 u145 u146 u147 u148 u149 u150 u151 u152 u153 u154 u155 u156 u157 u158 u159 u160 u161 u162 u163 u164 u165 u166 u167 u168 u169 u170 u171 u172 u173 u174 u175 u176 u177 u178 u179 u180 u181 u182 u183 u184 u185 u186 u187 u188 u189 u190 u191 u192 u193 u194 u195 u196 u197 u198 u199 u200 u201 u202 u203 u204 u205 u206 u207 u208 u209 u210 u211 u212 u213 u214 u215 u216 u217 u218 u219 u220 u221 u222 u223 u224 u225 u226 u227 u228 u229 u230 u231 u232 u233 u234 u235 u236 u237 u238 u239 u240 u241 u242 u243 u244 u245 u246 u247 u248 u249 u250 u251 u252 u253 u254 u255 u256 u257 u258 u259 u260 u261 u262 u263 u264 u265 u266 u267 u268 u269 u270 u271 u272 u273 u274 u275 u276 u277 u278 u279 u280 u281 u282 u283 u284 u285 u286 u287 u288 u289 u290 u291 u292 u293 u294 u295 u296 : Value)
    (hQ : ∀ (w' : World) (v268 v269 v270 v271 v272 v273 v274 v275 v276 v277 v278 v279 v280 xv' : Value), BL w' g t (uc h sv xv' rest) → Own w' B 139 2 xv' (done.length + 1) (xcells (done ++ [⟨i, data⟩]) (ds ++ [dv])) → Ds w' p (done ++ [⟨i, data⟩]) (ds ++ [dv]) → Keep w w' (fun k => k = g ∨ xv.ownBlock = some k) →
      Q .normal ⟨List.toArray (.pointer (some ⟨g, 0, none⟩) :: u1 :: u2 :: u3 :: .int .i64 ((P : Int) + (m : Int)) :: u5 :: u6 :: u7 :: u8 :: u9 :: u10 :: u11 :: u12 :: u13 :: .int .i64 (m : Int) :: u15 :: .pointer (some ⟨gx, 0, none⟩) :: u17 :: u18 :: u19 :: u20 :: u21 :: u22 :: u23 :: u24 :: u25 :: u26 :: u27 :: u28 :: u29 :: u30 :: u31 :: u32 :: u33 :: u34 :: u35 :: u36 :: u37 :: u38 :: u39 :: u40 :: u41 :: u42 :: u43 :: u44 :: u45 :: u46 :: u47 :: u48 :: u49 :: u50 :: u51 :: u52 :: u53 :: u54 :: u55 :: u56 :: u57 :: u58 :: u59 :: u60 :: u61 :: u62 :: u63 :: u64 :: u65 :: u66 :: u67 :: u68 :: u69 :: u70 :: u71 :: u72 :: u73 :: u74 :: u75 :: u76 :: u77 :: u78 :: u79 :: u80 :: u81 :: u82 :: u83 :: u84 :: u85 :: u86 :: u87 :: u88 :: u89 :: u90 :: u91 :: u92 :: u93 :: u94 :: u95 :: u96 :: u97 :: u98 :: u99 :: u100 :: u101 :: u102 :: u103 :: u104 :: u105 :: u106 :: u107 :: u108 :: u109 :: u110 :: u111 :: u112 :: u113 :: u114 :: u115 :: u116 :: u117 :: u118 :: u119 :: u120 :: u121 :: u122 :: u123 :: u124 :: u125 :: u126 :: u127 :: u128 :: u129 :: u130 :: u131 :: u132 :: u133 :: u134 :: u135 :: u136 :: u137 :: u138 :: u139 :: u140 :: u141 :: u142 :: u143 :: u144 :: u145 :: u146 :: u147 :: u148 :: u149 :: u150 :: u151 :: u152 :: u153 :: u154 :: u155 :: u156 :: u157 :: u158 :: u159 :: u160 :: u161 :: u162 :: u163 :: u164 :: u165 :: u166 :: u167 :: u168 :: u169 :: u170 :: u171 :: u172 :: u173 :: u174 :: u175 :: u176 :: u177 :: u178 :: u179 :: u180 :: u181 :: u182 :: u183 :: u184 :: u185 :: u186 :: u187 :: u188 :: u189 :: u190 :: u191 :: u192 :: u193 :: u194 :: u195 :: u196 :: u197 :: u198 :: u199 :: u200 :: u201 :: u202 :: u203 :: u204 :: u205 :: u206 :: u207 :: u208 :: u209 :: u210 :: u211 :: u212 :: u213 :: u214 :: u215 :: u216 :: u217 :: u218 :: u219 :: u220 :: u221 :: u222 :: u223 :: u224 :: u225 :: u226 :: u227 :: u228 :: u229 :: u230 :: u231 :: u232 :: u233 :: u234 :: u235 :: u236 :: u237 :: u238 :: u239 :: u240 :: u241 :: u242 :: u243 :: u244 :: u245 :: u246 :: u247 :: u248 :: u249 :: u250 :: u251 :: u252 :: u253 :: u254 :: u255 :: u256 :: u257 :: u258 :: u259 :: u260 :: u261 :: u262 :: u263 :: u264 :: u265 :: u266 :: u267 :: v268 :: v269 :: v270 :: v271 :: v272 :: v273 :: v274 :: v275 :: v276 :: v277 :: v278 :: v279 :: v280 :: u281 :: u282 :: u283 :: u284 :: u285 :: u286 :: u287 :: u288 :: u289 :: u290 :: u291 :: u292 :: u293 :: u294 :: u295 :: u296 :: []), []⟩ w')
    (hX : Blk w gx 139 #[.int .u8 i, dv]) (hd : Rd w p 1 dv data.length (B8 data)) (hG : BL w g t (uc h sv xv rest)) (hgB : g < B) (hBw : B ≤ w.heap.size) (hxo : ¬ xv.ownBlock = some gx) (hO : Own w B 139 2 xv done.length (xcells done ds)) (hD : Ds w p done ds) (hpg : ∀ i, p i → i ≠ g ∧ i < B) (hdl : done.length ≤ 1000000) (hpm : P + m ≤ 2147483647) :
    Part Tryd.prog Tryd.f71 59 Q ⟨List.toArray (.pointer (some ⟨g, 0, none⟩) :: u1 :: u2 :: u3 :: .int .i64 (P : Int) :: u5 :: u6 :: u7 :: u8 :: u9 :: u10 :: u11 :: u12 :: u13 :: .int .i64 (m : Int) :: u15 :: .pointer (some ⟨gx, 0, none⟩) :: u17 :: u18 :: u19 :: u20 :: u21 :: u22 :: u23 :: u24 :: u25 :: u26 :: u27 :: u28 :: u29 :: u30 :: u31 :: u32 :: u33 :: u34 :: u35 :: u36 :: u37 :: u38 :: u39 :: u40 :: u41 :: u42 :: u43 :: u44 :: u45 :: u46 :: u47 :: u48 :: u49 :: u50 :: u51 :: u52 :: u53 :: u54 :: u55 :: u56 :: u57 :: u58 :: u59 :: u60 :: u61 :: u62 :: u63 :: u64 :: u65 :: u66 :: u67 :: u68 :: u69 :: u70 :: u71 :: u72 :: u73 :: u74 :: u75 :: u76 :: u77 :: u78 :: u79 :: u80 :: u81 :: u82 :: u83 :: u84 :: u85 :: u86 :: u87 :: u88 :: u89 :: u90 :: u91 :: u92 :: u93 :: u94 :: u95 :: u96 :: u97 :: u98 :: u99 :: u100 :: u101 :: u102 :: u103 :: u104 :: u105 :: u106 :: u107 :: u108 :: u109 :: u110 :: u111 :: u112 :: u113 :: u114 :: u115 :: u116 :: u117 :: u118 :: u119 :: u120 :: u121 :: u122 :: u123 :: u124 :: u125 :: u126 :: u127 :: u128 :: u129 :: u130 :: u131 :: u132 :: u133 :: u134 :: u135 :: u136 :: u137 :: u138 :: u139 :: u140 :: u141 :: u142 :: u143 :: u144 :: u145 :: u146 :: u147 :: u148 :: u149 :: u150 :: u151 :: u152 :: u153 :: u154 :: u155 :: u156 :: u157 :: u158 :: u159 :: u160 :: u161 :: u162 :: u163 :: u164 :: u165 :: u166 :: u167 :: u168 :: u169 :: u170 :: u171 :: u172 :: u173 :: u174 :: u175 :: u176 :: u177 :: u178 :: u179 :: u180 :: u181 :: u182 :: u183 :: u184 :: u185 :: u186 :: u187 :: u188 :: u189 :: u190 :: u191 :: u192 :: u193 :: u194 :: u195 :: u196 :: u197 :: u198 :: u199 :: u200 :: u201 :: u202 :: u203 :: u204 :: u205 :: u206 :: u207 :: u208 :: u209 :: u210 :: u211 :: u212 :: u213 :: u214 :: u215 :: u216 :: u217 :: u218 :: u219 :: u220 :: u221 :: u222 :: u223 :: u224 :: u225 :: u226 :: u227 :: u228 :: u229 :: u230 :: u231 :: u232 :: u233 :: u234 :: u235 :: u236 :: u237 :: u238 :: u239 :: u240 :: u241 :: u242 :: u243 :: u244 :: u245 :: u246 :: u247 :: u248 :: u249 :: u250 :: u251 :: u252 :: u253 :: u254 :: u255 :: u256 :: u257 :: u258 :: u259 :: u260 :: u261 :: u262 :: u263 :: u264 :: u265 :: u266 :: u267 :: u268 :: u269 :: u270 :: u271 :: u272 :: u273 :: u274 :: u275 :: u276 :: u277 :: u278 :: u279 :: u280 :: u281 :: u282 :: u283 :: u284 :: u285 :: u286 :: u287 :: u288 :: u289 :: u290 :: u291 :: u292 :: u293 :: u294 :: u295 :: u296 :: []), []⟩ w := by
  have HQ := hide hQ
  have HX := hide hX
  have HD := hide hd
  have HG := hide hG
  have HO := hide hO
  have HDS := hide hD
  have HPG := hide hpg
  obtain ⟨dn, hdn⟩ : ∃ dn, dn = done.length := ⟨_, rfl⟩
  have HDN := hide hdn
  rw [← hdn] at HO HQ hdl
  have HXO := hide hxo
  have HNG := hide (show ¬ xv.ownBlock = some g from fun e => by have := (hO.at_ g e).1; omega)
  obtain ⟨Au, cu, rfl⟩ := HO.out.rd.shape
  have e0 := hX.cell 0 (v := .int .u8 i) rfl
  have e1 := hX.cell 1 (v := dv) rfl
  have t10 := hG.cell 10 (v := .slice Au dn cu) rfl
  have lg := hG.lt
  have lx := hX.lt
  have hob := fun q e => (hO.at_ q e).1
  have HOB := hide hob
  clear hQ hX hd hG hO hD hpg hdn hxo hob
  refine part_open (fun c hc K hK => ?_)
  conv at hc => rhs; whnf
  subst hc
  dsimp only [xOf, yOf] at hK ⊢
  have HK0 := hide hK
  clear hK
  refine wp_region_noPanic ?_
  refine region_last' (S := fun w' => w'.cell? ⟨gx, 0, none⟩ = some (.int .u8 i) ∧ w'.cell? ⟨gx, 1, none⟩ = some dv ∧ w'.cell? ⟨g, 10, none⟩ = some (.slice Au dn cu)) (by kernel_rfl) (by kernel_rfl) (by simp only [List.dropLast_cons_cons, List.dropLast_singleton]; rfl) (by simp only [List.getLast?_cons_cons, List.getLast?_singleton]; rfl) (⟨e0, e1, t10⟩) (fun hHeld => ?_)
  simp only [List.length_cons, List.length_nil, Nat.reduceAdd, Nat.zero_add]
  refine wpAnyH_take (i := 0) (v := ?_) (by simp only [List.getElem?_toArray, List.getElem?_cons_succ, List.getElem?_cons_zero]; rfl) (by kernel_rfl) (by kernel_rfl) (by kernel_rfl) (fun _ _ _ h => h) (Or.inl ⟨by rfl, ?_⟩) (by assumption) ?_
  rotate_left 1
  · (intro w hSw; (try dsimp only at hSw); go_simp; (try with_reducible rfl))
  try simp only [Act.put, List.setIfInBounds_toArray, List.set_cons_zero, List.set_cons_succ]
  refine wpAnyH_take (i := 1) (v := ?_) (by simp only [List.getElem?_toArray, List.getElem?_cons_succ, List.getElem?_cons_zero]; rfl) (by kernel_rfl) (by kernel_rfl) (by kernel_rfl) (fun _ _ _ h => h) (Or.inl ⟨by rfl, ?_⟩) (by assumption) ?_
  rotate_left 1
  · (intro w hSw; (try dsimp only at hSw); go_simp; (try with_reducible rfl))
  try simp only [Act.put, List.setIfInBounds_toArray, List.set_cons_zero, List.set_cons_succ]
  refine wpAnyH_take (i := 2) (v := ?_) (by simp only [List.getElem?_toArray, List.getElem?_cons_succ, List.getElem?_cons_zero]; rfl) (by kernel_rfl) (by kernel_rfl) (by kernel_rfl) (fun _ _ _ h => h) (Or.inl ⟨by rfl, ?_⟩) (by assumption) ?_
  rotate_left 1
  · (intro w hSw; (try dsimp only at hSw); go_simp; (try with_reducible rfl))
  try simp only [Act.put, List.setIfInBounds_toArray, List.set_cons_zero, List.set_cons_succ]
  refine wpAnyH_take (i := 3) (v := ?_) (by simp only [List.getElem?_toArray, List.getElem?_cons_succ, List.getElem?_cons_zero]; rfl) (by kernel_rfl) (by kernel_rfl) (by kernel_rfl) (fun _ _ _ h => h) (Or.inl ⟨by rfl, ?_⟩) (by assumption) ?_
  rotate_left 1
  · (intro w hSw; (try dsimp only at hSw); go_simp; (try with_reducible rfl))
  try simp only [Act.put, List.setIfInBounds_toArray, List.set_cons_zero, List.set_cons_succ]
  refine wpAnyH_take (i := 4) (v := ?_) (by simp only [List.getElem?_toArray, List.getElem?_cons_succ, List.getElem?_cons_zero]; rfl) (by kernel_rfl) (by kernel_rfl) (by kernel_rfl) (fun _ _ _ h => h) (Or.inl ⟨by rfl, ?_⟩) (by assumption) ?_
  rotate_left 1
  · (intro w hSw; (try dsimp only at hSw); go_simp; (try with_reducible rfl))
  try simp only [Act.put, List.setIfInBounds_toArray, List.set_cons_zero, List.set_cons_succ]
  refine wpAnyH_take (i := 5) (v := ?_) (by simp only [List.getElem?_toArray, List.getElem?_cons_succ, List.getElem?_cons_zero]; rfl) (by kernel_rfl) (by kernel_rfl) (by kernel_rfl) (fun _ _ _ h => h) (Or.inl ⟨by rfl, ?_⟩) (by assumption) ?_
  rotate_left 1
  · (intro w hSw; (try dsimp only at hSw); go_simp; (try with_reducible rfl))
  try simp only [Act.put, List.setIfInBounds_toArray, List.set_cons_zero, List.set_cons_succ]
  refine wpAnyH_ready (rs := [6]) (by kernel_rfl) (by simp) ?_
  refine AllReadyH.cons (by simp only [List.getElem?_toArray, List.getElem?_cons_succ, List.getElem?_cons_zero]; rfl) (fun K hK => ?_) AllReadyH.nil
  go_simp
  refine hK.out _ _ (⟨(HX.out.drew.alloc _).cell 0 rfl, (HX.out.drew.alloc _).cell 1 rfl, (HG.out.drew.alloc _).cell 10 rfl⟩) (fun hHeld => ?_)
  clear hK K
  try simp only [Act.put, List.setIfInBounds_toArray, List.set_cons_zero, List.set_cons_succ]
  refine wpAnyH_ready (rs := [7]) (by kernel_rfl) (by simp) ?_
  refine AllReadyH.cons (by simp only [List.getElem?_toArray, List.getElem?_cons_succ, List.getElem?_cons_zero]; rfl) (fun K hK => ?_) AllReadyH.nil
  refine step_app etX (by rfl) _ _ (by rfl) (HO.out.drew.alloc _) (by rfl) (src_one (w := w.drew) (g := w.heap.size) (cs := #[.int .u8 i, dv]) Tryd.underlying106 rfl rfl (by intro u hu; simp at hu; rcases hu with rfl | rfl; rfl; obtain ⟨_, _, hq⟩ := HD.out.shape; rw [hq]; rfl)) (by rfl) (by simp only [maxLen]; omega) (by omega) (by simp only [World.size_alloc, World.drew]; exact Nat.le_succ_of_le hBw) ?_
  intro v3 w3 o3 k3 b3 z3 _
  have hb3 := (HG.out.drew.alloc _).keep k3 HNG.out
  have f10 := hb3.free 10
  have g10 := hb3.cell 10 (v := .slice Au dn cu) rfl
  have l3 := hb3.lt
  have bx3 := (HX.out.drew.alloc _).keep k3 HXO.out
  obtain ⟨A5, c5, rfl⟩ := o3.rd.shape
  refine hK.out _ _ (⟨bx3.cell 0 rfl, bx3.cell 1 rfl, hb3.cell 10 rfl⟩) (fun hHeld => ?_)
  clear hK K
  try simp only [Act.put, List.setIfInBounds_toArray, List.set_cons_zero, List.set_cons_succ]
  refine wpAnyH_take (i := 8) (v := ?_) (by simp only [List.getElem?_toArray, List.getElem?_cons_succ, List.getElem?_cons_zero]; rfl) (by kernel_rfl) (by kernel_rfl) (by kernel_rfl) (fun _ _ _ h => h) (Or.inl ⟨by rfl, ?_⟩) (by assumption) ?_
  rotate_left 1
  · (intro w hSw; (try dsimp only at hSw); go_simp; (try with_reducible rfl))
  try simp only [Act.put, List.setIfInBounds_toArray, List.set_cons_zero, List.set_cons_succ]
  refine wpAnyH_take (i := 9) (v := ?_) (by simp only [List.getElem?_toArray, List.getElem?_cons_succ, List.getElem?_cons_zero]; rfl) (by kernel_rfl) (by kernel_rfl) (by kernel_rfl) (fun _ _ _ h => h) (Or.inl ⟨by rfl, ?_⟩) (by assumption) ?_
  rotate_left 1
  · (intro w hSw; (try dsimp only at hSw); go_simp; (try with_reducible rfl))
  try simp only [Act.put, List.setIfInBounds_toArray, List.set_cons_zero, List.set_cons_succ]
  refine wpAnyH_done (by kernel_rfl) ?_ _
  intro K hK
  have k13 : Keep w w3 (fun q => (Value.slice Au dn cu).ownBlock = some q) := ((((Keep.refl w _).drew).alloc _).trans k3 fun _ _ e => e)
  have kst : Keep w3 (w3.setCell ⟨g, 10, none⟩ (.slice A5 (dn + 1) c5)) (· = g) := Keep.set1 _ _ _ _
  have hb4 := hide (hb3.set 10 (.slice A5 (dn + 1) c5))
  have ho4 := hide (o3.keep kst (fun q hq e => by have := (o3.at_ q hq).1; omega))
  have hd3 := (HDS.out.snoc (x := ⟨i, data⟩) HD.out).keep k13 (fun i _ hi e => by have := (HPG.out i hi).2; have := HOB.out i e; omega)
  have hd4 := hide (hd3.keep kst (fun i _ hi e => (HPG.out i hi).1 e))
  have hk4 := hide (show Keep w (w3.setCell ⟨g, 10, none⟩ (.slice A5 (dn + 1) c5)) (fun k => k = g ∨ (Value.slice Au dn cu).ownBlock = some k) from (k13.mono (fun _ _ e => .inr e)).setg 10 (fun _ => .inl rfl) _)
  clear k13 kst o3 k3 b3 z3 hb3 bx3 hd3 hHeld
  go_simp
  refine hK _ _ (NoPanic.normal ?_)
  clear hK K
  refine HK0.out _ _ ?_
  go_wp2_with fail
  refine HQ.out _ _ _ _ _ _ _ _ _ _ _ _ _ _ _ hb4.out ?_ hd4.out hk4.out
  have ho := ho4.out
  rw [xcells_snoc _ _ _ _ HDS.out.1]
  exact ho

set_option maxHeartbeats 1600000 in
theorem un_p62 {p : Nat → Prop} {g gx B : Nat} {i : Int} {data : List Int} {t : TypeId} {rest : List Value} {sv xv dv : Value} {h : Hd} {done : List Ex} {ds : List Value} {Q : Exit → Act → World → Prop} (w : World) (u1 u2 u3 u4 u5 u6 u7 u8 u9 u10 u11 u12 u13 u14 u15 u16 u18 u19 u20 u21 u22 u23 u24 u25 u26 u27 u28 u29 u30 u31 u32 u33 u34 u35 u36 u37 u38 u39 u40 u41 u42 u43 u44 u45 u46 u47 u48 u49 u50 u51 u52 u53 u54 u55 u56 u57 u58 u59 u60 u61 u62 u63 u64 u65 u66 u67 u68 u69 u70 u71 u72 u73 u74 u75 u76 u77 u78 u79 u80 u81 u82 u83 u84 u85 u86 u87 u88 u89 u90 u91 u92 u93 u94 u95 u96 u97 u98 u99 u100 u101 u102 u103 u104 u105 u106 u107 u108 u109 u110 u111 u112 u113 u114 u115 u116 u117 u118 u119 u120 u121 u122 u123 u124 u125 u126 u127 u128 u129 u130 u131 u132 u133 u134 u135 u136 u137 u138 u139 u140 u141 u142 u143 u144 u145 u146 u147 u148 u149 u150 u151 u152 u153 u154 u155 u156 u157 u158 u159 u160 u161 u162 u163 u164 u165 u166 u167 u168 u169 u170 u171 u172 u173 u174 u175 u176 u177 u178 u179 u180 u181 u182 u183 u184 u185 u186 u187 u188 u189 u190 u191 u192 u193 u194 u195 u196 u197 u198 u199 u200 u201 u202 u203 u204 u205 u206 u207 u208 u209 u210 u211 u212 u213 u214 u215 u216 u217 u218 u219 u220 u221 u222 u223 u224 u225 u226 u227 u228 u229 u230 u231 u232 u233 u234 u235 u236 u237 u238 u239 u240 u241 u242 u243 u244 u245 u246 u247 u248 u249 u250 u251 u252 u253 u254 u255 u256 u257 u258 u259 u260 u261 u262 u263 u264 u265 u266 u267 u268 u269 u270 u271 u272 u273 u274 u275 u276 u277 u278 u279 u280 u281 u282 u283 u284 u285 u286 u287 u288 u289 u290 u291 u292 u293 u294 u295 u296 : Value)
    (hQ : ∀ (w' : World) (v286 v287 v288 v289 v290 v291 v292 v293 v294 v295 xv' : Value), BL w' g t (uc h sv xv' rest) → Own w' B 139 2 xv' (done.length + 1) (xcells (done ++ [⟨i, data⟩]) (ds ++ [dv])) → Ds w' p (done ++ [⟨i, data⟩]) (ds ++ [dv]) → Keep w w' (fun k => k = g ∨ xv.ownBlock = some k) →
      Q .normal ⟨List.toArray (.pointer (some ⟨g, 0, none⟩) :: u1 :: u2 :: u3 :: u4 :: u5 :: u6 :: u7 :: u8 :: u9 :: u10 :: u11 :: u12 :: u13 :: u14 :: u15 :: u16 :: .pointer (some ⟨gx, 0, none⟩) :: u18 :: u19 :: u20 :: u21 :: u22 :: u23 :: u24 :: u25 :: u26 :: u27 :: u28 :: u29 :: u30 :: u31 :: u32 :: u33 :: u34 :: u35 :: u36 :: u37 :: u38 :: u39 :: u40 :: u41 :: u42 :: u43 :: u44 :: u45 :: u46 :: u47 :: u48 :: u49 :: u50 :: u51 :: u52 :: u53 :: u54 :: u55 :: u56 :: u57 :: u58 :: u59 :: u60 :: u61 :: u62 :: u63 :: u64 :: u65 :: u66 :: u67 :: u68 :: u69 :: u70 :: u71 :: u72 :: u73 :: u74 :: u75 :: u76 :: u77 :: u78 :: u79 :: u80 :: u81 :: u82 :: u83 :: u84 :: u85 :: u86 :: u87 :: u88 :: u89 :: u90 :: u91 :: u92 :: u93 :: u94 :: u95 :: u96 :: u97 :: u98 :: u99 :: u100 :: u101 :: u102 :: u103 :: u104 :: u105 :: u106 :: u107 :: u108 :: u109 :: u110 :: u111 :: u112 :: u113 :: u114 :: u115 :: u116 :: u117 :: u118 :: u119 :: u120 :: u121 :: u122 :: u123 :: u124 :: u125 :: u126 :: u127 :: u128 :: u129 :: u130 :: u131 :: u132 :: u133 :: u134 :: u135 :: u136 :: u137 :: u138 :: u139 :: u140 :: u141 :: u142 :: u143 :: u144 :: u145 :: u146 :: u147 :: u148 :: u149 :: u150 :: u151 :: u152 :: u153 :: u154 :: u155 :: u156 :: u157 :: u158 :: u159 :: u160 :: u161 :: u162 :: u163 :: u164 :: u165 :: u166 :: u167 :: u168 :: u169 :: u170 :: u171 :: u172 :: u173 :: u174 :: u175 :: u176 :: u177 :: u178 :: u179 :: u180 :: u181 :: u182 :: u183 :: u184 :: u185 :: u186 :: u187 :: u188 :: u189 :: u190 :: u191 :: u192 :: u193 :: u194 :: u195 :: u196 :: u197 :: u198 :: u199 :: u200 :: u201 :: u202 :: u203 :: u204 :: u205 :: u206 :: u207 :: u208 :: u209 :: u210 :: u211 :: u212 :: u213 :: u214 :: u215 :: u216 :: u217 :: u218 :: u219 :: u220 :: u221 :: u222 :: u223 :: u224 :: u225 :: u226 :: u227 :: u228 :: u229 :: u230 :: u231 :: u232 :: u233 :: u234 :: u235 :: u236 :: u237 :: u238 :: u239 :: u240 :: u241 :: u242 :: u243 :: u244 :: u245 :: u246 :: u247 :: u248 :: u249 :: u250 :: u251 :: u252 :: u253 :: u254 :: u255 :: u256 :: u257 :: u258 :: u259 :: u260 :: u261 :: u262 :: u263 :: u264 :: u265 :: u266 :: u267 :: u268 :: u269 :: u270 :: u271 :: u272 :: u273 :: u274 :: u275 :: u276 :: u277 :: u278 :: u279 :: u280 :: u281 :: u282 :: u283 :: u284 :: u285 :: v286 :: v287 :: v288 :: v289 :: v290 :: v291 :: v292 :: v293 :: v294 :: v295 :: u296 :: []), []⟩ w')
    (hX : Blk w gx 139 #[.int .u8 i, dv]) (hd : Rd w p 1 dv data.length (B8 data)) (hG : BL w g t (uc h sv xv rest)) (hgB : g < B) (hBw : B ≤ w.heap.size) (hxo : ¬ xv.ownBlock = some gx) (hO : Own w B 139 2 xv done.length (xcells done ds)) (hD : Ds w p done ds) (hpg : ∀ i, p i → i ≠ g ∧ i < B) (hdl : done.length ≤ 1000000) :
    (yOf (fromR Tryd.f71 61)).wp Tryd.prog Q ⟨List.toArray (.pointer (some ⟨g, 0, none⟩) :: u1 :: u2 :: u3 :: u4 :: u5 :: u6 :: u7 :: u8 :: u9 :: u10 :: u11 :: u12 :: u13 :: u14 :: u15 :: u16 :: .pointer (some ⟨gx, 0, none⟩) :: u18 :: u19 :: u20 :: u21 :: u22 :: u23 :: u24 :: u25 :: u26 :: u27 :: u28 :: u29 :: u30 :: u31 :: u32 :: u33 :: u34 :: u35 :: u36 :: u37 :: u38 :: u39 :: u40 :: u41 :: u42 :: u43 :: u44 :: u45 :: u46 :: u47 :: u48 :: u49 :: u50 :: u51 :: u52 :: u53 :: u54 :: u55 :: u56 :: u57 :: u58 :: u59 :: u60 :: u61 :: u62 :: u63 :: u64 :: u65 :: u66 :: u67 :: u68 :: u69 :: u70 :: u71 :: u72 :: u73 :: u74 :: u75 :: u76 :: u77 :: u78 :: u79 :: u80 :: u81 :: u82 :: u83 :: u84 :: u85 :: u86 :: u87 :: u88 :: u89 :: u90 :: u91 :: u92 :: u93 :: u94 :: u95 :: u96 :: u97 :: u98 :: u99 :: u100 :: u101 :: u102 :: u103 :: u104 :: u105 :: u106 :: u107 :: u108 :: u109 :: u110 :: u111 :: u112 :: u113 :: u114 :: u115 :: u116 :: u117 :: u118 :: u119 :: u120 :: u121 :: u122 :: u123 :: u124 :: u125 :: u126 :: u127 :: u128 :: u129 :: u130 :: u131 :: u132 :: u133 :: u134 :: u135 :: u136 :: u137 :: u138 :: u139 :: u140 :: u141 :: u142 :: u143 :: u144 :: u145 :: u146 :: u147 :: u148 :: u149 :: u150 :: u151 :: u152 :: u153 :: u154 :: u155 :: u156 :: u157 :: u158 :: u159 :: u160 :: u161 :: u162 :: u163 :: u164 :: u165 :: u166 :: u167 :: u168 :: u169 :: u170 :: u171 :: u172 :: u173 :: u174 :: u175 :: u176 :: u177 :: u178 :: u179 :: u180 :: u181 :: u182 :: u183 :: u184 :: u185 :: u186 :: u187 :: u188 :: u189 :: u190 :: u191 :: u192 :: u193 :: u194 :: u195 :: u196 :: u197 :: u198 :: u199 :: u200 :: u201 :: u202 :: u203 :: u204 :: u205 :: u206 :: u207 :: u208 :: u209 :: u210 :: u211 :: u212 :: u213 :: u214 :: u215 :: u216 :: u217 :: u218 :: u219 :: u220 :: u221 :: u222 :: u223 :: u224 :: u225 :: u226 :: u227 :: u228 :: u229 :: u230 :: u231 :: u232 :: u233 :: u234 :: u235 :: u236 :: u237 :: u238 :: u239 :: u240 :: u241 :: u242 :: u243 :: u244 :: u245 :: u246 :: u247 :: u248 :: u249 :: u250 :: u251 :: u252 :: u253 :: u254 :: u255 :: u256 :: u257 :: u258 :: u259 :: u260 :: u261 :: u262 :: u263 :: u264 :: u265 :: u266 :: u267 :: u268 :: u269 :: u270 :: u271 :: u272 :: u273 :: u274 :: u275 :: u276 :: u277 :: u278 :: u279 :: u280 :: u281 :: u282 :: u283 :: u284 :: u285 :: u286 :: u287 :: u288 :: u289 :: u290 :: u291 :: u292 :: u293 :: u294 :: u295 :: u296 :: []), []⟩ w := by
  have HQ := hide hQ
  have HX := hide hX
  have HD := hide hd
  have HG := hide hG
  have HO := hide hO
  have HDS := hide hD
  have HPG := hide hpg
  obtain ⟨dn, hdn⟩ : ∃ dn, dn = done.length := ⟨_, rfl⟩
  have HDN := hide hdn
  rw [← hdn] at HO HQ hdl
  have HXO := hide hxo
  have HNG := hide (show ¬ xv.ownBlock = some g from fun e => by have := (hO.at_ g e).1; omega)
  obtain ⟨Au, cu, rfl⟩ := HO.out.rd.shape
  have e0 := hX.cell 0 (v := .int .u8 i) rfl
  have e1 := hX.cell 1 (v := dv) rfl
  have t10 := hG.cell 10 (v := .slice Au dn cu) rfl
  have lg := hG.lt
  have lx := hX.lt
  have hob := fun q e => (hO.at_ q e).1
  have HOB := hide hob
  clear hQ hX hd hG hO hD hpg hdn hxo hob
  generalize hc : fromR Tryd.f71 61 = c
  conv at hc => lhs; whnf
  subst hc
  dsimp only [yOf]
  refine wp_region_noPanic ?_
  refine region_last' (S := fun w' => w'.cell? ⟨gx, 0, none⟩ = some (.int .u8 i) ∧ w'.cell? ⟨gx, 1, none⟩ = some dv ∧ w'.cell? ⟨g, 10, none⟩ = some (.slice Au dn cu)) (by kernel_rfl) (by kernel_rfl) (by simp only [List.dropLast_cons_cons, List.dropLast_singleton]; rfl) (by simp only [List.getLast?_cons_cons, List.getLast?_singleton]; rfl) (⟨e0, e1, t10⟩) (fun hHeld => ?_)
  simp only [List.length_cons, List.length_nil, Nat.reduceAdd, Nat.zero_add]
  refine wpAnyH_take (i := 0) (v := ?_) (by simp only [List.getElem?_toArray, List.getElem?_cons_succ, List.getElem?_cons_zero]; rfl) (by kernel_rfl) (by kernel_rfl) (by kernel_rfl) (fun _ _ _ h => h) (Or.inl ⟨by rfl, ?_⟩) (by assumption) ?_
  rotate_left 1
  · (intro w hSw; (try dsimp only at hSw); go_simp; (try with_reducible rfl))
  try simp only [Act.put, List.setIfInBounds_toArray, List.set_cons_zero, List.set_cons_succ]
  refine wpAnyH_take (i := 1) (v := ?_) (by simp only [List.getElem?_toArray, List.getElem?_cons_succ, List.getElem?_cons_zero]; rfl) (by kernel_rfl) (by kernel_rfl) (by kernel_rfl) (fun _ _ _ h => h) (Or.inl ⟨by rfl, ?_⟩) (by assumption) ?_
  rotate_left 1
  · (intro w hSw; (try dsimp only at hSw); go_simp; (try with_reducible rfl))
  try simp only [Act.put, List.setIfInBounds_toArray, List.set_cons_zero, List.set_cons_succ]
  refine wpAnyH_take (i := 2) (v := ?_) (by simp only [List.getElem?_toArray, List.getElem?_cons_succ, List.getElem?_cons_zero]; rfl) (by kernel_rfl) (by kernel_rfl) (by kernel_rfl) (fun _ _ _ h => h) (Or.inl ⟨by rfl, ?_⟩) (by assumption) ?_
  rotate_left 1
  · (intro w hSw; (try dsimp only at hSw); go_simp; (try with_reducible rfl))
  try simp only [Act.put, List.setIfInBounds_toArray, List.set_cons_zero, List.set_cons_succ]
  refine wpAnyH_take (i := 3) (v := ?_) (by simp only [List.getElem?_toArray, List.getElem?_cons_succ, List.getElem?_cons_zero]; rfl) (by kernel_rfl) (by kernel_rfl) (by kernel_rfl) (fun _ _ _ h => h) (Or.inl ⟨by rfl, ?_⟩) (by assumption) ?_
  rotate_left 1
  · (intro w hSw; (try dsimp only at hSw); go_simp; (try with_reducible rfl))
  try simp only [Act.put, List.setIfInBounds_toArray, List.set_cons_zero, List.set_cons_succ]
  refine wpAnyH_take (i := 4) (v := ?_) (by simp only [List.getElem?_toArray, List.getElem?_cons_succ, List.getElem?_cons_zero]; rfl) (by kernel_rfl) (by kernel_rfl) (by kernel_rfl) (fun _ _ _ h => h) (Or.inl ⟨by rfl, ?_⟩) (by assumption) ?_
  rotate_left 1
  · (intro w hSw; (try dsimp only at hSw); go_simp; (try with_reducible rfl))
  try simp only [Act.put, List.setIfInBounds_toArray, List.set_cons_zero, List.set_cons_succ]
  refine wpAnyH_take (i := 5) (v := ?_) (by simp only [List.getElem?_toArray, List.getElem?_cons_succ, List.getElem?_cons_zero]; rfl) (by kernel_rfl) (by kernel_rfl) (by kernel_rfl) (fun _ _ _ h => h) (Or.inl ⟨by rfl, ?_⟩) (by assumption) ?_
  rotate_left 1
  · (intro w hSw; (try dsimp only at hSw); go_simp; (try with_reducible rfl))
  try simp only [Act.put, List.setIfInBounds_toArray, List.set_cons_zero, List.set_cons_succ]
  refine wpAnyH_ready (rs := [6]) (by kernel_rfl) (by simp) ?_
  refine AllReadyH.cons (by simp only [List.getElem?_toArray, List.getElem?_cons_succ, List.getElem?_cons_zero]; rfl) (fun K hK => ?_) AllReadyH.nil
  go_simp
  refine hK.out _ _ (⟨(HX.out.drew.alloc _).cell 0 rfl, (HX.out.drew.alloc _).cell 1 rfl, (HG.out.drew.alloc _).cell 10 rfl⟩) (fun hHeld => ?_)
  clear hK K
  try simp only [Act.put, List.setIfInBounds_toArray, List.set_cons_zero, List.set_cons_succ]
  refine wpAnyH_ready (rs := [7]) (by kernel_rfl) (by simp) ?_
  refine AllReadyH.cons (by simp only [List.getElem?_toArray, List.getElem?_cons_succ, List.getElem?_cons_zero]; rfl) (fun K hK => ?_) AllReadyH.nil
  refine step_app etX (by rfl) _ _ (by rfl) (HO.out.drew.alloc _) (by rfl) (src_one (w := w.drew) (g := w.heap.size) (cs := #[.int .u8 i, dv]) Tryd.underlying106 rfl rfl (by intro u hu; simp at hu; rcases hu with rfl | rfl; rfl; obtain ⟨_, _, hq⟩ := HD.out.shape; rw [hq]; rfl)) (by rfl) (by simp only [maxLen]; omega) (by omega) (by simp only [World.size_alloc, World.drew]; exact Nat.le_succ_of_le hBw) ?_
  intro v3 w3 o3 k3 b3 z3 _
  have hb3 := (HG.out.drew.alloc _).keep k3 HNG.out
  have f10 := hb3.free 10
  have g10 := hb3.cell 10 (v := .slice Au dn cu) rfl
  have l3 := hb3.lt
  have bx3 := (HX.out.drew.alloc _).keep k3 HXO.out
  obtain ⟨A5, c5, rfl⟩ := o3.rd.shape
  refine hK.out _ _ (⟨bx3.cell 0 rfl, bx3.cell 1 rfl, hb3.cell 10 rfl⟩) (fun hHeld => ?_)
  clear hK K
  try simp only [Act.put, List.setIfInBounds_toArray, List.set_cons_zero, List.set_cons_succ]
  refine wpAnyH_take (i := 8) (v := ?_) (by simp only [List.getElem?_toArray, List.getElem?_cons_succ, List.getElem?_cons_zero]; rfl) (by kernel_rfl) (by kernel_rfl) (by kernel_rfl) (fun _ _ _ h => h) (Or.inl ⟨by rfl, ?_⟩) (by assumption) ?_
  rotate_left 1
  · (intro w hSw; (try dsimp only at hSw); go_simp; (try with_reducible rfl))
  try simp only [Act.put, List.setIfInBounds_toArray, List.set_cons_zero, List.set_cons_succ]
  refine wpAnyH_take (i := 9) (v := ?_) (by simp only [List.getElem?_toArray, List.getElem?_cons_succ, List.getElem?_cons_zero]; rfl) (by kernel_rfl) (by kernel_rfl) (by kernel_rfl) (fun _ _ _ h => h) (Or.inl ⟨by rfl, ?_⟩) (by assumption) ?_
  rotate_left 1
  · (intro w hSw; (try dsimp only at hSw); go_simp; (try with_reducible rfl))
  try simp only [Act.put, List.setIfInBounds_toArray, List.set_cons_zero, List.set_cons_succ]
  refine wpAnyH_done (by kernel_rfl) ?_ _
  intro K hK
  have k13 : Keep w w3 (fun q => (Value.slice Au dn cu).ownBlock = some q) := ((((Keep.refl w _).drew).alloc _).trans k3 fun _ _ e => e)
  have kst : Keep w3 (w3.setCell ⟨g, 10, none⟩ (.slice A5 (dn + 1) c5)) (· = g) := Keep.set1 _ _ _ _
  have hb4 := hide (hb3.set 10 (.slice A5 (dn + 1) c5))
  have ho4 := hide (o3.keep kst (fun q hq e => by have := (o3.at_ q hq).1; omega))
  have hd3 := (HDS.out.snoc (x := ⟨i, data⟩) HD.out).keep k13 (fun i _ hi e => by have := (HPG.out i hi).2; have := HOB.out i e; omega)
  have hd4 := hide (hd3.keep kst (fun i _ hi e => (HPG.out i hi).1 e))
  have hk4 := hide (show Keep w (w3.setCell ⟨g, 10, none⟩ (.slice A5 (dn + 1) c5)) (fun k => k = g ∨ (Value.slice Au dn cu).ownBlock = some k) from (k13.mono (fun _ _ e => .inr e)).setg 10 (fun _ => .inl rfl) _)
  clear k13 kst o3 k3 b3 z3 hb3 bx3 hd3 hHeld
  go_simp
  refine hK _ _ (NoPanic.normal ?_)
  clear hK K
  refine HQ.out _ _ _ _ _ _ _ _ _ _ _ _ hb4.out ?_ hd4.out hk4.out
  have ho := ho4.out
  rw [xcells_snoc _ _ _ _ HDS.out.1]
  exact ho
end Go.Proofs.YtdmnflngafbobaaDoor
namespace Go.Proofs.YtdmnflngafbobaaDoor
open Go.RowKit
set_option linter.unusedVariables false
set_option linter.unusedSimpArgs false
set_option maxRecDepth 100000

set_option maxHeartbeats 1600000 in
theorem un_p58 {p : Nat → Prop} {bs : List Int} {n c b o g B P m : Nat} {i : Int} {t : TypeId} {rest : List Value} {sv xv : Value} {h : Hd} {done : List Ex} {ds : List Value} {Q : Exit → Act → World → Prop} (w : World) (u2 u3 u5 u6 u7 u8 u9 u10 u11 u12 u15 u16 u17 u18 u19 u20 u21 u22 u23 u24 u25 u26 u27 u28 u29 u30 u31 u32 u33 u34 u35 u36 u37 u38 u39 u40 u41 u42 u43 u44 u45 u46 u47 u48 u49 u50 u51 u52 u53 u54 u55 u56 u57 u58 u59 u60 u61 u62 u63 u64 u65 u66 u67 u68 u69 u70 u71 u72 u73 u74 u75 u76 u77 u78 u79 u80 u81 u82 u83 u84 u85 u86 u87 u88 u89 u90 u91 u92 u93 u94 u95 u96 u97 u98 u99 u100 u101 u102 u103 u104 u105 u106 u107 u108 u109 u110 u111 u112 u113 u114 u115 u116 u117 u118 u119 u120 u121 u122 u123 u124 u125 u126 u127 u128 u129 u130 u131 u132 u133 u134 u135 u136 u137 u138 u139 u140 u141 u142 u143 u144 u145 u146 u147 u148 u149 u150 u151 u152 u153 u154 u155 u156 u157 u158 u159 u160 u161 u162 u163 u164 u165 u166 u167 u168 u169 u170 u171 u172 u173 u174 u175 u176 u177 u178 u179 u180 u181 u182 u183 u184 u185 u186 u187 u188 u189 u190 u191 u192 u193 u194 u195 u196 u197 u198 u199 u200 u201 u202 u203 u204 u205 u206 u207 u208 u209 u210 u211 u212 u213 u214 u215 u216 u217 u218 u219 u220 u221 u222 u223 u224 u225 u226 u227 u228 u229 u230 u231 u232 u233 u234 u235 u236 u237 u238 u239 u240 u241 u242 u243 u244 u245 u246 u247 u248 u249 u250 u251 u252 u253 u254 u255 u256 u257 u258 u259 u260 u261 u262 u263 u264 u265 u266 u267 u268 u269 u270 u271 u272 u273 u274 u275 u276 u277 u278 u279 u280 u281 u282 u283 u284 u285 u286 u287 u288 u289 u290 u291 u292 u293 u294 u295 u296 : Value)
    (hQ : ∀ (w' : World) (v16 v260 v261 v262 v263 v264 v265 v266 v267 v268 v269 v270 v271 v272 v273 v274 v275 v276 v277 v278 v279 v280 xv' d : Value), BL w' g t (uc h sv xv' rest) → Own w' B 139 2 xv' (done.length + 1) (xcells (done ++ [⟨i, (bs.drop P).take m⟩]) (ds ++ [d])) → Ds w' p (done ++ [⟨i, (bs.drop P).take m⟩]) (ds ++ [d]) → Keep w w' (fun k => k = g ∨ xv.ownBlock = some k) →
      Q .normal ⟨List.toArray (.pointer (some ⟨g, 0, none⟩) :: .slice (some ⟨b, o, none⟩) n c :: u2 :: u3 :: .int .i64 ((P : Int) + (m : Int)) :: u5 :: u6 :: u7 :: u8 :: u9 :: u10 :: u11 :: u12 :: .int .u8 i :: .int .i64 (m : Int) :: u15 :: v16 :: u17 :: u18 :: u19 :: u20 :: u21 :: u22 :: u23 :: u24 :: u25 :: u26 :: u27 :: u28 :: u29 :: u30 :: u31 :: u32 :: u33 :: u34 :: u35 :: u36 :: u37 :: u38 :: u39 :: u40 :: u41 :: u42 :: u43 :: u44 :: u45 :: u46 :: u47 :: u48 :: u49 :: u50 :: u51 :: u52 :: u53 :: u54 :: u55 :: u56 :: u57 :: u58 :: u59 :: u60 :: u61 :: u62 :: u63 :: u64 :: u65 :: u66 :: u67 :: u68 :: u69 :: u70 :: u71 :: u72 :: u73 :: u74 :: u75 :: u76 :: u77 :: u78 :: u79 :: u80 :: u81 :: u82 :: u83 :: u84 :: u85 :: u86 :: u87 :: u88 :: u89 :: u90 :: u91 :: u92 :: u93 :: u94 :: u95 :: u96 :: u97 :: u98 :: u99 :: u100 :: u101 :: u102 :: u103 :: u104 :: u105 :: u106 :: u107 :: u108 :: u109 :: u110 :: u111 :: u112 :: u113 :: u114 :: u115 :: u116 :: u117 :: u118 :: u119 :: u120 :: u121 :: u122 :: u123 :: u124 :: u125 :: u126 :: u127 :: u128 :: u129 :: u130 :: u131 :: u132 :: u133 :: u134 :: u135 :: u136 :: u137 :: u138 :: u139 :: u140 :: u141 :: u142 :: u143 :: u144 :: u145 :: u146 :: u147 :: u148 :: u149 :: u150 :: u151 :: u152 :: u153 :: u154 :: u155 :: u156 :: u157 :: u158 :: u159 :: u160 :: u161 :: u162 :: u163 :: u164 :: u165 :: u166 :: u167 :: u168 :: u169 :: u170 :: u171 :: u172 :: u173 :: u174 :: u175 :: u176 :: u177 :: u178 :: u179 :: u180 :: u181 :: u182 :: u183 :: u184 :: u185 :: u186 :: u187 :: u188 :: u189 :: u190 :: u191 :: u192 :: u193 :: u194 :: u195 :: u196 :: u197 :: u198 :: u199 :: u200 :: u201 :: u202 :: u203 :: u204 :: u205 :: u206 :: u207 :: u208 :: u209 :: u210 :: u211 :: u212 :: u213 :: u214 :: u215 :: u216 :: u217 :: u218 :: u219 :: u220 :: u221 :: u222 :: u223 :: u224 :: u225 :: u226 :: u227 :: u228 :: u229 :: u230 :: u231 :: u232 :: u233 :: u234 :: u235 :: u236 :: u237 :: u238 :: u239 :: u240 :: u241 :: u242 :: u243 :: u244 :: u245 :: u246 :: u247 :: u248 :: u249 :: u250 :: u251 :: u252 :: u253 :: u254 :: u255 :: u256 :: u257 :: u258 :: u259 :: v260 :: v261 :: v262 :: v263 :: v264 :: v265 :: v266 :: v267 :: v268 :: v269 :: v270 :: v271 :: v272 :: v273 :: v274 :: v275 :: v276 :: v277 :: v278 :: v279 :: v280 :: u281 :: u282 :: u283 :: u284 :: u285 :: u286 :: u287 :: u288 :: u289 :: u290 :: u291 :: u292 :: u293 :: u294 :: u295 :: u296 :: []), []⟩ w')
    (hR : Rd w p 1 (.slice (some ⟨b, o, none⟩) n c) n (B8 bs)) (hpm : P + m ≤ n) (hnm : n ≤ 2147483647) (hn0 : 0 < n) (hG : BL w g t (uc h sv xv rest)) (hgB : g < B) (hBw : B ≤ w.heap.size) (hO : Own w B 139 2 xv done.length (xcells done ds)) (hD : Ds w p done ds) (hpg : ∀ i, p i → i ≠ g ∧ i < B) (hdl : done.length ≤ 1000000) :
    Part Tryd.prog Tryd.f71 58 Q ⟨List.toArray (.pointer (some ⟨g, 0, none⟩) :: .slice (some ⟨b, o, none⟩) n c :: u2 :: u3 :: .int .i64 (P : Int) :: u5 :: u6 :: u7 :: u8 :: u9 :: u10 :: u11 :: u12 :: .int .u8 i :: .int .i64 (m : Int) :: u15 :: u16 :: u17 :: u18 :: u19 :: u20 :: u21 :: u22 :: u23 :: u24 :: u25 :: u26 :: u27 :: u28 :: u29 :: u30 :: u31 :: u32 :: u33 :: u34 :: u35 :: u36 :: u37 :: u38 :: u39 :: u40 :: u41 :: u42 :: u43 :: u44 :: u45 :: u46 :: u47 :: u48 :: u49 :: u50 :: u51 :: u52 :: u53 :: u54 :: u55 :: u56 :: u57 :: u58 :: u59 :: u60 :: u61 :: u62 :: u63 :: u64 :: u65 :: u66 :: u67 :: u68 :: u69 :: u70 :: u71 :: u72 :: u73 :: u74 :: u75 :: u76 :: u77 :: u78 :: u79 :: u80 :: u81 :: u82 :: u83 :: u84 :: u85 :: u86 :: u87 :: u88 :: u89 :: u90 :: u91 :: u92 :: u93 :: u94 :: u95 :: u96 :: u97 :: u98 :: u99 :: u100 :: u101 :: u102 :: u103 :: u104 :: u105 :: u106 :: u107 :: u108 :: u109 :: u110 :: u111 :: u112 :: u113 :: u114 :: u115 :: u116 :: u117 :: u118 :: u119 :: u120 :: u121 :: u122 :: u123 :: u124 :: u125 :: u126 :: u127 :: u128 :: u129 :: u130 :: u131 :: u132 :: u133 :: u134 :: u135 :: u136 :: u137 :: u138 :: u139 :: u140 :: u141 :: u142 :: u143 :: u144 :: u145 :: u146 :: u147 :: u148 :: u149 :: u150 :: u151 :: u152 :: u153 :: u154 :: u155 :: u156 :: u157 :: u158 :: u159 :: u160 :: u161 :: u162 :: u163 :: u164 :: u165 :: u166 :: u167 :: u168 :: u169 :: u170 :: u171 :: u172 :: u173 :: u174 :: u175 :: u176 :: u177 :: u178 :: u179 :: u180 :: u181 :: u182 :: u183 :: u184 :: u185 :: u186 :: u187 :: u188 :: u189 :: u190 :: u191 :: u192 :: u193 :: u194 :: u195 :: u196 :: u197 :: u198 :: u199 :: u200 :: u201 :: u202 :: u203 :: u204 :: u205 :: u206 :: u207 :: u208 :: u209 :: u210 :: u211 :: u212 :: u213 :: u214 :: u215 :: u216 :: u217 :: u218 :: u219 :: u220 :: u221 :: u222 :: u223 :: u224 :: u225 :: u226 :: u227 :: u228 :: u229 :: u230 :: u231 :: u232 :: u233 :: u234 :: u235 :: u236 :: u237 :: u238 :: u239 :: u240 :: u241 :: u242 :: u243 :: u244 :: u245 :: u246 :: u247 :: u248 :: u249 :: u250 :: u251 :: u252 :: u253 :: u254 :: u255 :: u256 :: u257 :: u258 :: u259 :: u260 :: u261 :: u262 :: u263 :: u264 :: u265 :: u266 :: u267 :: u268 :: u269 :: u270 :: u271 :: u272 :: u273 :: u274 :: u275 :: u276 :: u277 :: u278 :: u279 :: u280 :: u281 :: u282 :: u283 :: u284 :: u285 :: u286 :: u287 :: u288 :: u289 :: u290 :: u291 :: u292 :: u293 :: u294 :: u295 :: u296 :: []), []⟩ w := by
  have HQ := hide hQ
  have HR := hide hR
  have HG := hide hG
  have HO := hide hO
  have HDS := hide hD
  have HPG := hide hpg
  have hl : bs.length = n := by have := hR.len; rwa [B8_len] at this
  obtain ⟨_, _, _, hvv, hnc, hcm, hpb, hbw, hcc⟩ := hR.lit (by omega)
  clear hcc
  injection hvv with e1 _ e3
  injection e1 with e1
  injection e1 with e1 e2
  subst e1 e2 e3
  have lg := hG.lt
  have hxo := fun q e => (hO.at_ q e).2.1
  have h1 : (P : Int) ≤ (P : Int) + (m : Int) := by omega
  have h2 : (P : Int) + (m : Int) ≤ (c : Int) := by omega
  have h3 : ((P : Int) + (m : Int)).toNat = P + m := by omega
  have h4 : P + m - P = m := by omega
  have hdl2 : ((bs.drop P).take m).length = m := by rw [List.length_take, List.length_drop, hl]; omega
  have HXO := hide hxo
  have HDL := hide hdl2
  clear hQ hR hG hO hD hpg hxo hdl2 hl
  by_cases hcP : c = P
  · subst hcP
    have rd := hide (HR.out.sub c (c + m) (by omega) hpm (some ⟨b, o, none⟩) (fun h => absurd rfl h) (by simp))
    refine part_open (fun c hc K hK => ?_)
    conv at hc => rhs; whnf
    subst hc
    dsimp only [xOf, yOf] at hK ⊢
    go_upto_region 59 with fail
    generalize hw1 : World.alloc w _ = w1
    have X1 := hide (show Blk w1 w.heap.size 139 #[.int .u8 i, .slice (some ⟨b, o, none⟩) m 0] by subst hw1; exact Blk.new w _ _)
    have K1 := hide (show Keep w w1 Nul by subst hw1; exact (Keep.refl w Nul).alloc _)
    clear hw1
    have rd1 := hide (show Rd w1 p 1 (.slice (some ⟨b, o, none⟩) m 0) ((bs.drop c).take m).length (B8 ((bs.drop c).take m)) by have := rd.out.keep0 K1.out; rw [show c + m - c = m by omega, Nat.sub_self] at this; rw [HDL.out]; exact this)
    refine part_use ( un_p59 (h := h) (p := p) (B := B) (P := c) (m := m) (i := i) (data := (bs.drop c).take m) w1 _ _ _ _ _ _ _ _ _ _ _ _ _ _ _ _ _ _ _ _ _ _ _ _ _ _ _ _ _ _ _ _ _ _ _ _ _ _ _ _ _ _ _ _ _ _ _ _ _ _ _ _ _ _ _ _ _ _ _ _ _ _ _ _ _ _ _ _ _ _ _ _ _ _ _ _ _ _ _ _ _ _ _ _ _ _ _ _ _ _ _ _ _ _ _ _ _ _ _ _ _ _ _ _ _ _ _ _ _ _ _ _ _ _ _ _ _ _ _ _ _ _ _ _ _ _ _ _ _ _ _ _ _ _ _ _ _ _ _ _ _ _ _ _ _ _ _ _ _ _ _ _ _ _ _ _ _ _ _ _ _ _ _ _ _ _ _ _ _ _ _ _ _ _ _ _ _ _ _ _ _ _ _ _ _ _ _ _ _ _ _ _ _ _ _ _ _ _ _ _ _ _ _ _ _ _ _ _ _ _ _ _ _ _ _ _ _ _ _ _ _ _ _ _ _ _ _ _ _ _ _ _ _ _ _ _ _ _ _ _ _ _ _ _ _ _ _ _ _ _ _ _ _ _ _ _ _ _ _ _ _ _ _ _ _ _ _ _ _ _ _ _ _ _ _ _ _ _ _ _ _ _ _ _ _ _ _ _ _ _ _ _ _ (Q := Q) ?_ X1.out rd1.out (HG.out.keep K1.out (fun e => e)) hgB (Nat.le_trans hBw K1.out.size) (fun e => by have := HXO.out _ e; omega) (HO.out.keep0 K1.out) (HDS.out.keep0 K1.out) HPG.out hdl (by omega)) rfl rfl (by assumption)
    intro w' v268 v269 v270 v271 v272 v273 v274 v275 v276 v277 v278 v279 v280 xv' q1 q2 q3 q4
    exact HQ.out w' _ _ _ _ _ _ _ _ _ _ _ _ _ _ _ _ _ _ _ _ _ _  xv' _ q1 q2 q3 ((K1.out.nul _).trans q4 (fun _ _ e => e))
  · have hn1 : ¬ c = P := hcP
    have rd := hide (HR.out.sub P (P + m) (by omega) hpm (some ⟨b, o + P, none⟩) (fun _ => rfl) (by simp))
    refine part_open (fun c hc K hK => ?_)
    conv at hc => rhs; whnf
    subst hc
    dsimp only [xOf, yOf] at hK ⊢
    go_upto_region 59 with fail
    generalize hw1 : World.alloc w _ = w1
    have X1 := hide (show Blk w1 w.heap.size 139 #[.int .u8 i, .slice (some ⟨b, o + P, none⟩) m (c - P)] by subst hw1; exact Blk.new w _ _)
    have K1 := hide (show Keep w w1 Nul by subst hw1; exact (Keep.refl w Nul).alloc _)
    clear hw1
    have rd1 := hide (show Rd w1 p 1 (.slice (some ⟨b, o + P, none⟩) m (c - P)) ((bs.drop P).take m).length (B8 ((bs.drop P).take m)) by have := rd.out.keep0 K1.out; rw [show P + m - P = m by omega] at this; rw [HDL.out]; exact this)
    refine part_use ( un_p59 (h := h) (p := p) (B := B) (P := P) (m := m) (i := i) (data := (bs.drop P).take m) w1 _ _ _ _ _ _ _ _ _ _ _ _ _ _ _ _ _ _ _ _ _ _ _ _ _ _ _ _ _ _ _ _ _ _ _ _ _ _ _ _ _ _ _ _ _ _ _ _ _ _ _ _ _ _ _ _ _ _ _ _ _ _ _ _ _ _ _ _ _ _ _ _ _ _ _ _ _ _ _ _ _ _ _ _ _ _ _ _ _ _ _ _ _ _ _ _ _ _ _ _ _ _ _ _ _ _ _ _ _ _ _ _ _ _ _ _ _ _ _ _ _ _ _ _ _ _ _ _ _ _ _ _ _ _ _ _ _ _ _ _ _ _ _ _ _ _ _ _ _ _ _ _ _ _ _ _ _ _ _ _ _ _ _ _ _ _ _ _ _ _ _ _ _ _ _ _ _ _ _ _ _ _ _ _ _ _ _ _ _ _ _ _ _ _ _ _ _ _ _ _ _ _ _ _ _ _ _ _ _ _ _ _ _ _ _ _ _ _ _ _ _ _ _ _ _ _ _ _ _ _ _ _ _ _ _ _ _ _ _ _ _ _ _ _ _ _ _ _ _ _ _ _ _ _ _ _ _ _ _ _ _ _ _ _ _ _ _ _ _ _ _ _ _ _ _ _ _ _ _ _ _ _ _ _ _ _ _ _ _ _ _ _ _ (Q := Q) ?_ X1.out rd1.out (HG.out.keep K1.out (fun e => e)) hgB (Nat.le_trans hBw K1.out.size) (fun e => by have := HXO.out _ e; omega) (HO.out.keep0 K1.out) (HDS.out.keep0 K1.out) HPG.out hdl (by omega)) rfl rfl (by assumption)
    intro w' v268 v269 v270 v271 v272 v273 v274 v275 v276 v277 v278 v279 v280 xv' q1 q2 q3 q4
    exact HQ.out w' _ _ _ _ _ _ _ _ _ _ _ _ _ _ _ _ _ _ _ _ _ _  xv' _ q1 q2 q3 ((K1.out.nul _).trans q4 (fun _ _ e => e))

theorem un_p58i {p : Nat → Prop} {bs : List Int} {n c b o g B : Nat} {i : Int} {t : TypeId} {rest : List Value} {sv xv : Value} {h : Hd} {done : List Ex} {ds : List Value} {Q : Exit → Act → World → Prop} (w : World) (P m : Nat) (x4 x14 : Int) (h4 : x4 = P) (h14 : x14 = m) (u2 u3 u5 u6 u7 u8 u9 u10 u11 u12 u15 u16 u17 u18 u19 u20 u21 u22 u23 u24 u25 u26 u27 u28 u29 u30 u31 u32 u33 u34 u35 u36 u37 u38 u39 u40 u41 u42 u43 u44 u45 u46 u47 u48 u49 u50 u51 u52 u53 u54 u55 u56 u57 u58 u59 u60 u61 u62 u63 u64 u65 u66 u67 u68 u69 u70 u71 u72 u73 u74 u75 u76 u77 u78 u79 u80 u81 u82 u83 u84 u85 u86 u87 u88 u89 u90 u91 u92 u93 u94 u95 u96 u97 u98 u99 u100 u101 u102 u103 u104 u105 u106 u107 u108 u109 u110 u111 u112 u113 u114 u115 u116 u117 u118 u119 u120 u121 u122 u123 u124 u125 u126 u127 u128 u129 u130 u131 u132 u133 u134 u135 u136 u137 u138 u139 u140 u141 u142 u143 u144 u145 u146 u147 u148 u149 u150 u151 u152 u153 u154 u155 u156 u157 u158 u159 u160 u161 u162 u163 u164 u165 u166 u167 u168 u169 u170 u171 u172 u173 u174 u175 u176 u177 u178 u179 u180 u181 u182 u183 u184 u185 u186 u187 u188 u189 u190 u191 u192 u193 u194 u195 u196 u197 u198 u199 u200 u201 u202 u203 u204 u205 u206 u207 u208 u209 u210 u211 u212 u213 u214 u215 u216 u217 u218 u219 u220 u221 u222 u223 u224 u225 u226 u227 u228 u229 u230 u231 u232 u233 u234 u235 u236 u237 u238 u239 u240 u241 u242 u243 u244 u245 u246 u247 u248 u249 u250 u251 u252 u253 u254 u255 u256 u257 u258 u259 u260 u261 u262 u263 u264 u265 u266 u267 u268 u269 u270 u271 u272 u273 u274 u275 u276 u277 u278 u279 u280 u281 u282 u283 u284 u285 u286 u287 u288 u289 u290 u291 u292 u293 u294 u295 u296 : Value)
    (hQ : ∀ (w' : World) (v16 v260 v261 v262 v263 v264 v265 v266 v267 v268 v269 v270 v271 v272 v273 v274 v275 v276 v277 v278 v279 v280 xv' d : Value), BL w' g t (uc h sv xv' rest) → Own w' B 139 2 xv' (done.length + 1) (xcells (done ++ [⟨i, (bs.drop P).take m⟩]) (ds ++ [d])) → Ds w' p (done ++ [⟨i, (bs.drop P).take m⟩]) (ds ++ [d]) → Keep w w' (fun k => k = g ∨ xv.ownBlock = some k) →
      Q .normal ⟨List.toArray (.pointer (some ⟨g, 0, none⟩) :: .slice (some ⟨b, o, none⟩) n c :: u2 :: u3 :: .int .i64 (x4 + x14) :: u5 :: u6 :: u7 :: u8 :: u9 :: u10 :: u11 :: u12 :: .int .u8 i :: .int .i64 x14 :: u15 :: v16 :: u17 :: u18 :: u19 :: u20 :: u21 :: u22 :: u23 :: u24 :: u25 :: u26 :: u27 :: u28 :: u29 :: u30 :: u31 :: u32 :: u33 :: u34 :: u35 :: u36 :: u37 :: u38 :: u39 :: u40 :: u41 :: u42 :: u43 :: u44 :: u45 :: u46 :: u47 :: u48 :: u49 :: u50 :: u51 :: u52 :: u53 :: u54 :: u55 :: u56 :: u57 :: u58 :: u59 :: u60 :: u61 :: u62 :: u63 :: u64 :: u65 :: u66 :: u67 :: u68 :: u69 :: u70 :: u71 :: u72 :: u73 :: u74 :: u75 :: u76 :: u77 :: u78 :: u79 :: u80 :: u81 :: u82 :: u83 :: u84 :: u85 :: u86 :: u87 :: u88 :: u89 :: u90 :: u91 :: u92 :: u93 :: u94 :: u95 :: u96 :: u97 :: u98 :: u99 :: u100 :: u101 :: u102 :: u103 :: u104 :: u105 :: u106 :: u107 :: u108 :: u109 :: u110 :: u111 :: u112 :: u113 :: u114 :: u115 :: u116 :: u117 :: u118 :: u119 :: u120 :: u121 :: u122 :: u123 :: u124 :: u125 :: u126 :: u127 :: u128 :: u129 :: u130 :: u131 :: u132 :: u133 :: u134 :: u135 :: u136 :: u137 :: u138 :: u139 :: u140 :: u141 :: u142 :: u143 :: u144 :: u145 :: u146 :: u147 :: u148 :: u149 :: u150 :: u151 :: u152 :: u153 :: u154 :: u155 :: u156 :: u157 :: u158 :: u159 :: u160 :: u161 :: u162 :: u163 :: u164 :: u165 :: u166 :: u167 :: u168 :: u169 :: u170 :: u171 :: u172 :: u173 :: u174 :: u175 :: u176 :: u177 :: u178 :: u179 :: u180 :: u181 :: u182 :: u183 :: u184 :: u185 :: u186 :: u187 :: u188 :: u189 :: u190 :: u191 :: u192 :: u193 :: u194 :: u195 :: u196 :: u197 :: u198 :: u199 :: u200 :: u201 :: u202 :: u203 :: u204 :: u205 :: u206 :: u207 :: u208 :: u209 :: u210 :: u211 :: u212 :: u213 :: u214 :: u215 :: u216 :: u217 :: u218 :: u219 :: u220 :: u221 :: u222 :: u223 :: u224 :: u225 :: u226 :: u227 :: u228 :: u229 :: u230 :: u231 :: u232 :: u233 :: u234 :: u235 :: u236 :: u237 :: u238 :: u239 :: u240 :: u241 :: u242 :: u243 :: u244 :: u245 :: u246 :: u247 :: u248 :: u249 :: u250 :: u251 :: u252 :: u253 :: u254 :: u255 :: u256 :: u257 :: u258 :: u259 :: v260 :: v261 :: v262 :: v263 :: v264 :: v265 :: v266 :: v267 :: v268 :: v269 :: v270 :: v271 :: v272 :: v273 :: v274 :: v275 :: v276 :: v277 :: v278 :: v279 :: v280 :: u281 :: u282 :: u283 :: u284 :: u285 :: u286 :: u287 :: u288 :: u289 :: u290 :: u291 :: u292 :: u293 :: u294 :: u295 :: u296 :: []), []⟩ w')
    (hR : Rd w p 1 (.slice (some ⟨b, o, none⟩) n c) n (B8 bs)) (hpm : P + m ≤ n) (hnm : n ≤ 2147483647) (hn0 : 0 < n) (hG : BL w g t (uc h sv xv rest)) (hgB : g < B) (hBw : B ≤ w.heap.size) (hO : Own w B 139 2 xv done.length (xcells done ds)) (hD : Ds w p done ds) (hpg : ∀ i, p i → i ≠ g ∧ i < B) (hdl : done.length ≤ 1000000) :
    Part Tryd.prog Tryd.f71 58 Q ⟨List.toArray (.pointer (some ⟨g, 0, none⟩) :: .slice (some ⟨b, o, none⟩) n c :: u2 :: u3 :: .int .i64 x4 :: u5 :: u6 :: u7 :: u8 :: u9 :: u10 :: u11 :: u12 :: .int .u8 i :: .int .i64 x14 :: u15 :: u16 :: u17 :: u18 :: u19 :: u20 :: u21 :: u22 :: u23 :: u24 :: u25 :: u26 :: u27 :: u28 :: u29 :: u30 :: u31 :: u32 :: u33 :: u34 :: u35 :: u36 :: u37 :: u38 :: u39 :: u40 :: u41 :: u42 :: u43 :: u44 :: u45 :: u46 :: u47 :: u48 :: u49 :: u50 :: u51 :: u52 :: u53 :: u54 :: u55 :: u56 :: u57 :: u58 :: u59 :: u60 :: u61 :: u62 :: u63 :: u64 :: u65 :: u66 :: u67 :: u68 :: u69 :: u70 :: u71 :: u72 :: u73 :: u74 :: u75 :: u76 :: u77 :: u78 :: u79 :: u80 :: u81 :: u82 :: u83 :: u84 :: u85 :: u86 :: u87 :: u88 :: u89 :: u90 :: u91 :: u92 :: u93 :: u94 :: u95 :: u96 :: u97 :: u98 :: u99 :: u100 :: u101 :: u102 :: u103 :: u104 :: u105 :: u106 :: u107 :: u108 :: u109 :: u110 :: u111 :: u112 :: u113 :: u114 :: u115 :: u116 :: u117 :: u118 :: u119 :: u120 :: u121 :: u122 :: u123 :: u124 :: u125 :: u126 :: u127 :: u128 :: u129 :: u130 :: u131 :: u132 :: u133 :: u134 :: u135 :: u136 :: u137 :: u138 :: u139 :: u140 :: u141 :: u142 :: u143 :: u144 :: u145 :: u146 :: u147 :: u148 :: u149 :: u150 :: u151 :: u152 :: u153 :: u154 :: u155 :: u156 :: u157 :: u158 :: u159 :: u160 :: u161 :: u162 :: u163 :: u164 :: u165 :: u166 :: u167 :: u168 :: u169 :: u170 :: u171 :: u172 :: u173 :: u174 :: u175 :: u176 :: u177 :: u178 :: u179 :: u180 :: u181 :: u182 :: u183 :: u184 :: u185 :: u186 :: u187 :: u188 :: u189 :: u190 :: u191 :: u192 :: u193 :: u194 :: u195 :: u196 :: u197 :: u198 :: u199 :: u200 :: u201 :: u202 :: u203 :: u204 :: u205 :: u206 :: u207 :: u208 :: u209 :: u210 :: u211 :: u212 :: u213 :: u214 :: u215 :: u216 :: u217 :: u218 :: u219 :: u220 :: u221 :: u222 :: u223 :: u224 :: u225 :: u226 :: u227 :: u228 :: u229 :: u230 :: u231 :: u232 :: u233 :: u234 :: u235 :: u236 :: u237 :: u238 :: u239 :: u240 :: u241 :: u242 :: u243 :: u244 :: u245 :: u246 :: u247 :: u248 :: u249 :: u250 :: u251 :: u252 :: u253 :: u254 :: u255 :: u256 :: u257 :: u258 :: u259 :: u260 :: u261 :: u262 :: u263 :: u264 :: u265 :: u266 :: u267 :: u268 :: u269 :: u270 :: u271 :: u272 :: u273 :: u274 :: u275 :: u276 :: u277 :: u278 :: u279 :: u280 :: u281 :: u282 :: u283 :: u284 :: u285 :: u286 :: u287 :: u288 :: u289 :: u290 :: u291 :: u292 :: u293 :: u294 :: u295 :: u296 :: []), []⟩ w := by
  subst h4 h14
  exact un_p58 w _ _ _ _ _ _ _ _ _ _ _ _ _ _ _ _ _ _ _ _ _ _ _ _ _ _ _ _ _ _ _ _ _ _ _ _ _ _ _ _ _ _ _ _ _ _ _ _ _ _ _ _ _ _ _ _ _ _ _ _ _ _ _ _ _ _ _ _ _ _ _ _ _ _ _ _ _ _ _ _ _ _ _ _ _ _ _ _ _ _ _ _ _ _ _ _ _ _ _ _ _ _ _ _ _ _ _ _ _ _ _ _ _ _ _ _ _ _ _ _ _ _ _ _ _ _ _ _ _ _ _ _ _ _ _ _ _ _ _ _ _ _ _ _ _ _ _ _ _ _ _ _ _ _ _ _ _ _ _ _ _ _ _ _ _ _ _ _ _ _ _ _ _ _ _ _ _ _ _ _ _ _ _ _ _ _ _ _ _ _ _ _ _ _ _ _ _ _ _ _ _ _ _ _ _ _ _ _ _ _ _ _ _ _ _ _ _ _ _ _ _ _ _ _ _ _ _ _ _ _ _ _ _ _ _ _ _ _ _ _ _ _ _ _ _ _ _ _ _ _ _ _ _ _ _ _ _ _ _ _ _ _ _ _ _ _ _ _ _ _ _ _ _ _ _ _ _ _ _ _ _ _ _ _ _ _ _ _ _ _ _ _ hQ hR hpm hnm hn0 hG hgB hBw hO hD hpg hdl

set_option maxHeartbeats 1600000 in
theorem un_p61 {p : Nat → Prop} {bs : List Int} {n c b o g B P m : Nat} {t : TypeId} {rest : List Value} {sv xv : Value} {h : Hd} {done : List Ex} {ds : List Value} {Q : Exit → Act → World → Prop} (w : World) (u2 u3 u5 u6 u7 u8 u9 u10 u11 u13 u14 u15 u16 u17 u18 u19 u20 u21 u22 u23 u24 u25 u26 u27 u28 u29 u30 u31 u32 u33 u34 u35 u36 u37 u38 u39 u40 u41 u42 u43 u44 u45 u46 u47 u48 u49 u50 u51 u52 u53 u54 u55 u56 u57 u58 u59 u60 u61 u62 u63 u64 u65 u66 u67 u68 u69 u70 u71 u72 u73 u74 u75 u76 u77 u78 u79 u80 u81 u82 u83 u84 u85 u86 u87 u88 u89 u90 u91 u92 u93 u94 u95 u96 u97 u98 u99 u100 u101 u102 u103 u104 u105 u106 u107 u108 u109 u110 u111 u112 u113 u114 u115 u116 u117 u118 u119 u120 u121 u122 u123 u124 u125 u126 u127 u128 u129 u130 u131 u132 u133 u134 u135 u136 u137 u138 u139 u140 u141 u142 u143 u144 u145 u146 u147 u148 u149 u150 u151 u152 u153 u154 u155 u156 u157 u158 u159 u160 u161 u162 u163 u164 u165 u166 u167 u168 u169 u170 u171 u172 u173 u174 u175 u176 u177 u178 u179 u180 u181 u182 u183 u184 u185 u186 u187 u188 u189 u190 u191 u192 u193 u194 u195 u196 u197 u198 u199 u200 u201 u202 u203 u204 u205 u206 u207 u208 u209 u210 u211 u212 u213 u214 u215 u216 u217 u218 u219 u220 u221 u222 u223 u224 u225 u226 u227 u228 u229 u230 u231 u232 u233 u234 u235 u236 u237 u238 u239 u240 u241 u242 u243 u244 u245 u246 u247 u248 u249 u250 u251 u252 u253 u254 u255 u256 u257 u258 u259 u260 u261 u262 u263 u264 u265 u266 u267 u268 u269 u270 u271 u272 u273 u274 u275 u276 u277 u278 u279 u280 u281 u282 u283 u284 u285 u286 u287 u288 u289 u290 u291 u292 u293 u294 u295 u296 : Value)
    (hQ : ∀ (w' : World) (v17 v281 v282 v283 v284 v285 v286 v287 v288 v289 v290 v291 v292 v293 v294 v295 xv' d : Value), BL w' g t (uc h sv xv' rest) → Own w' B 139 2 xv' (done.length + 1) (xcells (done ++ [⟨0, (bs.drop P).take m⟩]) (ds ++ [d])) → Ds w' p (done ++ [⟨0, (bs.drop P).take m⟩]) (ds ++ [d]) → Keep w w' (fun k => k = g ∨ xv.ownBlock = some k) →
      Q .normal ⟨List.toArray (.pointer (some ⟨g, 0, none⟩) :: .slice (some ⟨b, o, none⟩) n c :: u2 :: u3 :: .int .i64 (P : Int) :: u5 :: u6 :: u7 :: u8 :: u9 :: u10 :: u11 :: .int .i64 ((P : Int) + (m : Int)) :: u13 :: u14 :: u15 :: u16 :: v17 :: u18 :: u19 :: u20 :: u21 :: u22 :: u23 :: u24 :: u25 :: u26 :: u27 :: u28 :: u29 :: u30 :: u31 :: u32 :: u33 :: u34 :: u35 :: u36 :: u37 :: u38 :: u39 :: u40 :: u41 :: u42 :: u43 :: u44 :: u45 :: u46 :: u47 :: u48 :: u49 :: u50 :: u51 :: u52 :: u53 :: u54 :: u55 :: u56 :: u57 :: u58 :: u59 :: u60 :: u61 :: u62 :: u63 :: u64 :: u65 :: u66 :: u67 :: u68 :: u69 :: u70 :: u71 :: u72 :: u73 :: u74 :: u75 :: u76 :: u77 :: u78 :: u79 :: u80 :: u81 :: u82 :: u83 :: u84 :: u85 :: u86 :: u87 :: u88 :: u89 :: u90 :: u91 :: u92 :: u93 :: u94 :: u95 :: u96 :: u97 :: u98 :: u99 :: u100 :: u101 :: u102 :: u103 :: u104 :: u105 :: u106 :: u107 :: u108 :: u109 :: u110 :: u111 :: u112 :: u113 :: u114 :: u115 :: u116 :: u117 :: u118 :: u119 :: u120 :: u121 :: u122 :: u123 :: u124 :: u125 :: u126 :: u127 :: u128 :: u129 :: u130 :: u131 :: u132 :: u133 :: u134 :: u135 :: u136 :: u137 :: u138 :: u139 :: u140 :: u141 :: u142 :: u143 :: u144 :: u145 :: u146 :: u147 :: u148 :: u149 :: u150 :: u151 :: u152 :: u153 :: u154 :: u155 :: u156 :: u157 :: u158 :: u159 :: u160 :: u161 :: u162 :: u163 :: u164 :: u165 :: u166 :: u167 :: u168 :: u169 :: u170 :: u171 :: u172 :: u173 :: u174 :: u175 :: u176 :: u177 :: u178 :: u179 :: u180 :: u181 :: u182 :: u183 :: u184 :: u185 :: u186 :: u187 :: u188 :: u189 :: u190 :: u191 :: u192 :: u193 :: u194 :: u195 :: u196 :: u197 :: u198 :: u199 :: u200 :: u201 :: u202 :: u203 :: u204 :: u205 :: u206 :: u207 :: u208 :: u209 :: u210 :: u211 :: u212 :: u213 :: u214 :: u215 :: u216 :: u217 :: u218 :: u219 :: u220 :: u221 :: u222 :: u223 :: u224 :: u225 :: u226 :: u227 :: u228 :: u229 :: u230 :: u231 :: u232 :: u233 :: u234 :: u235 :: u236 :: u237 :: u238 :: u239 :: u240 :: u241 :: u242 :: u243 :: u244 :: u245 :: u246 :: u247 :: u248 :: u249 :: u250 :: u251 :: u252 :: u253 :: u254 :: u255 :: u256 :: u257 :: u258 :: u259 :: u260 :: u261 :: u262 :: u263 :: u264 :: u265 :: u266 :: u267 :: u268 :: u269 :: u270 :: u271 :: u272 :: u273 :: u274 :: u275 :: u276 :: u277 :: u278 :: u279 :: u280 :: v281 :: v282 :: v283 :: v284 :: v285 :: v286 :: v287 :: v288 :: v289 :: v290 :: v291 :: v292 :: v293 :: v294 :: v295 :: u296 :: []), []⟩ w')
    (hR : Rd w p 1 (.slice (some ⟨b, o, none⟩) n c) n (B8 bs)) (hpm : P + m ≤ n) (hnm : n ≤ 2147483647) (hn0 : 0 < n) (hG : BL w g t (uc h sv xv rest)) (hgB : g < B) (hBw : B ≤ w.heap.size) (hO : Own w B 139 2 xv done.length (xcells done ds)) (hD : Ds w p done ds) (hpg : ∀ i, p i → i ≠ g ∧ i < B) (hdl : done.length ≤ 1000000) :
    Part Tryd.prog Tryd.f71 61 Q ⟨List.toArray (.pointer (some ⟨g, 0, none⟩) :: .slice (some ⟨b, o, none⟩) n c :: u2 :: u3 :: .int .i64 (P : Int) :: u5 :: u6 :: u7 :: u8 :: u9 :: u10 :: u11 :: .int .i64 ((P : Int) + (m : Int)) :: u13 :: u14 :: u15 :: u16 :: u17 :: u18 :: u19 :: u20 :: u21 :: u22 :: u23 :: u24 :: u25 :: u26 :: u27 :: u28 :: u29 :: u30 :: u31 :: u32 :: u33 :: u34 :: u35 :: u36 :: u37 :: u38 :: u39 :: u40 :: u41 :: u42 :: u43 :: u44 :: u45 :: u46 :: u47 :: u48 :: u49 :: u50 :: u51 :: u52 :: u53 :: u54 :: u55 :: u56 :: u57 :: u58 :: u59 :: u60 :: u61 :: u62 :: u63 :: u64 :: u65 :: u66 :: u67 :: u68 :: u69 :: u70 :: u71 :: u72 :: u73 :: u74 :: u75 :: u76 :: u77 :: u78 :: u79 :: u80 :: u81 :: u82 :: u83 :: u84 :: u85 :: u86 :: u87 :: u88 :: u89 :: u90 :: u91 :: u92 :: u93 :: u94 :: u95 :: u96 :: u97 :: u98 :: u99 :: u100 :: u101 :: u102 :: u103 :: u104 :: u105 :: u106 :: u107 :: u108 :: u109 :: u110 :: u111 :: u112 :: u113 :: u114 :: u115 :: u116 :: u117 :: u118 :: u119 :: u120 :: u121 :: u122 :: u123 :: u124 :: u125 :: u126 :: u127 :: u128 :: u129 :: u130 :: u131 :: u132 :: u133 :: u134 :: u135 :: u136 :: u137 :: u138 :: u139 :: u140 :: u141 :: u142 :: u143 :: u144 :: u145 :: u146 :: u147 :: u148 :: u149 :: u150 :: u151 :: u152 :: u153 :: u154 :: u155 :: u156 :: u157 :: u158 :: u159 :: u160 :: u161 :: u162 :: u163 :: u164 :: u165 :: u166 :: u167 :: u168 :: u169 :: u170 :: u171 :: u172 :: u173 :: u174 :: u175 :: u176 :: u177 :: u178 :: u179 :: u180 :: u181 :: u182 :: u183 :: u184 :: u185 :: u186 :: u187 :: u188 :: u189 :: u190 :: u191 :: u192 :: u193 :: u194 :: u195 :: u196 :: u197 :: u198 :: u199 :: u200 :: u201 :: u202 :: u203 :: u204 :: u205 :: u206 :: u207 :: u208 :: u209 :: u210 :: u211 :: u212 :: u213 :: u214 :: u215 :: u216 :: u217 :: u218 :: u219 :: u220 :: u221 :: u222 :: u223 :: u224 :: u225 :: u226 :: u227 :: u228 :: u229 :: u230 :: u231 :: u232 :: u233 :: u234 :: u235 :: u236 :: u237 :: u238 :: u239 :: u240 :: u241 :: u242 :: u243 :: u244 :: u245 :: u246 :: u247 :: u248 :: u249 :: u250 :: u251 :: u252 :: u253 :: u254 :: u255 :: u256 :: u257 :: u258 :: u259 :: u260 :: u261 :: u262 :: u263 :: u264 :: u265 :: u266 :: u267 :: u268 :: u269 :: u270 :: u271 :: u272 :: u273 :: u274 :: u275 :: u276 :: u277 :: u278 :: u279 :: u280 :: u281 :: u282 :: u283 :: u284 :: u285 :: u286 :: u287 :: u288 :: u289 :: u290 :: u291 :: u292 :: u293 :: u294 :: u295 :: u296 :: []), []⟩ w := by
  have HQ := hide hQ
  have HR := hide hR
  have HG := hide hG
  have HO := hide hO
  have HDS := hide hD
  have HPG := hide hpg
  have hl : bs.length = n := by have := hR.len; rwa [B8_len] at this
  obtain ⟨_, _, _, hvv, hnc, hcm, hpb, hbw, hcc⟩ := hR.lit (by omega)
  clear hcc
  injection hvv with e1 _ e3
  injection e1 with e1
  injection e1 with e1 e2
  subst e1 e2 e3
  have lg := hG.lt
  have hxo := fun q e => (hO.at_ q e).2.1
  have h1 : (P : Int) ≤ (P : Int) + (m : Int) := by omega
  have h2 : (P : Int) + (m : Int) ≤ (c : Int) := by omega
  have h3 : ((P : Int) + (m : Int)).toNat = P + m := by omega
  have h4 : P + m - P = m := by omega
  have hdl2 : ((bs.drop P).take m).length = m := by rw [List.length_take, List.length_drop, hl]; omega
  have HXO := hide hxo
  have HDL := hide hdl2
  clear hQ hR hG hO hD hpg hxo hdl2 hl
  by_cases hcP : c = P
  · subst hcP
    have rd := hide (HR.out.sub c (c + m) (by omega) hpm (some ⟨b, o, none⟩) (fun h => absurd rfl h) (by simp))
    refine part_open (fun c hc K hK => ?_)
    have HK := hide hK
    clear hK
    generalize hfr : yOf c = yy at HK
    have hyy : yOf (fromR Tryd.f71 61) = yy := by rw [← hc]; exact hfr
    conv at hc => rhs; whnf
    subst hc
    clear hfr
    dsimp only [xOf, yOf]
    go_wp2_with fail
    refine HK.out _ _ ?_
    rw [← hyy]
    generalize hw1 : World.alloc w _ = w1
    have X1 := hide (show Blk w1 w.heap.size 139 #[.int .u8 0, .slice (some ⟨b, o, none⟩) m 0] by subst hw1; exact Blk.new w _ _)
    have K1 := hide (show Keep w w1 Nul by subst hw1; exact (Keep.refl w Nul).alloc _)
    clear hw1
    have rd1 := hide (show Rd w1 p 1 (.slice (some ⟨b, o, none⟩) m 0) ((bs.drop c).take m).length (B8 ((bs.drop c).take m)) by have := rd.out.keep0 K1.out; rw [show c + m - c = m by omega, Nat.sub_self] at this; rw [HDL.out]; exact this)
    refine un_p62 (h := h) (p := p) (B := B) (i := 0) (data := (bs.drop c).take m) w1 _ _ _ _ _ _ _ _ _ _ _ _ _ _ _ _ _ _ _ _ _ _ _ _ _ _ _ _ _ _ _ _ _ _ _ _ _ _ _ _ _ _ _ _ _ _ _ _ _ _ _ _ _ _ _ _ _ _ _ _ _ _ _ _ _ _ _ _ _ _ _ _ _ _ _ _ _ _ _ _ _ _ _ _ _ _ _ _ _ _ _ _ _ _ _ _ _ _ _ _ _ _ _ _ _ _ _ _ _ _ _ _ _ _ _ _ _ _ _ _ _ _ _ _ _ _ _ _ _ _ _ _ _ _ _ _ _ _ _ _ _ _ _ _ _ _ _ _ _ _ _ _ _ _ _ _ _ _ _ _ _ _ _ _ _ _ _ _ _ _ _ _ _ _ _ _ _ _ _ _ _ _ _ _ _ _ _ _ _ _ _ _ _ _ _ _ _ _ _ _ _ _ _ _ _ _ _ _ _ _ _ _ _ _ _ _ _ _ _ _ _ _ _ _ _ _ _ _ _ _ _ _ _ _ _ _ _ _ _ _ _ _ _ _ _ _ _ _ _ _ _ _ _ _ _ _ _ _ _ _ _ _ _ _ _ _ _ _ _ _ _ _ _ _ _ _ _ _ _ _ _ _ _ _ _ _ _ _ _ _ _ _ _ _ _ (Q := Q) ?_ X1.out rd1.out (HG.out.keep K1.out (fun e => e)) hgB (Nat.le_trans hBw K1.out.size) (fun e => by have := HXO.out _ e; omega) (HO.out.keep0 K1.out) (HDS.out.keep0 K1.out) HPG.out hdl
    intro w' v286 v287 v288 v289 v290 v291 v292 v293 v294 v295 xv' q1 q2 q3 q4
    exact HQ.out w' _ _ _ _ _ _ _ _ _ _ _ _ _ _ _ _  xv' _ q1 q2 q3 ((K1.out.nul _).trans q4 (fun _ _ e => e))
  · have hn1 : ¬ c = P := hcP
    have rd := hide (HR.out.sub P (P + m) (by omega) hpm (some ⟨b, o + P, none⟩) (fun _ => rfl) (by simp))
    refine part_open (fun c hc K hK => ?_)
    have HK := hide hK
    clear hK
    generalize hfr : yOf c = yy at HK
    have hyy : yOf (fromR Tryd.f71 61) = yy := by rw [← hc]; exact hfr
    conv at hc => rhs; whnf
    subst hc
    clear hfr
    dsimp only [xOf, yOf]
    go_wp2_with fail
    refine HK.out _ _ ?_
    rw [← hyy]
    generalize hw1 : World.alloc w _ = w1
    have X1 := hide (show Blk w1 w.heap.size 139 #[.int .u8 0, .slice (some ⟨b, o + P, none⟩) m (c - P)] by subst hw1; exact Blk.new w _ _)
    have K1 := hide (show Keep w w1 Nul by subst hw1; exact (Keep.refl w Nul).alloc _)
    clear hw1
    have rd1 := hide (show Rd w1 p 1 (.slice (some ⟨b, o + P, none⟩) m (c - P)) ((bs.drop P).take m).length (B8 ((bs.drop P).take m)) by have := rd.out.keep0 K1.out; rw [show P + m - P = m by omega] at this; rw [HDL.out]; exact this)
    refine un_p62 (h := h) (p := p) (B := B) (i := 0) (data := (bs.drop P).take m) w1 _ _ _ _ _ _ _ _ _ _ _ _ _ _ _ _ _ _ _ _ _ _ _ _ _ _ _ _ _ _ _ _ _ _ _ _ _ _ _ _ _ _ _ _ _ _ _ _ _ _ _ _ _ _ _ _ _ _ _ _ _ _ _ _ _ _ _ _ _ _ _ _ _ _ _ _ _ _ _ _ _ _ _ _ _ _ _ _ _ _ _ _ _ _ _ _ _ _ _ _ _ _ _ _ _ _ _ _ _ _ _ _ _ _ _ _ _ _ _ _ _ _ _ _ _ _ _ _ _ _ _ _ _ _ _ _ _ _ _ _ _ _ _ _ _ _ _ _ _ _ _ _ _ _ _ _ _ _ _ _ _ _ _ _ _ _ _ _ _ _ _ _ _ _ _ _ _ _ _ _ _ _ _ _ _ _ _ _ _ _ _ _ _ _ _ _ _ _ _ _ _ _ _ _ _ _ _ _ _ _ _ _ _ _ _ _ _ _ _ _ _ _ _ _ _ _ _ _ _ _ _ _ _ _ _ _ _ _ _ _ _ _ _ _ _ _ _ _ _ _ _ _ _ _ _ _ _ _ _ _ _ _ _ _ _ _ _ _ _ _ _ _ _ _ _ _ _ _ _ _ _ _ _ _ _ _ _ _ _ _ _ _ _ _ _ (Q := Q) ?_ X1.out rd1.out (HG.out.keep K1.out (fun e => e)) hgB (Nat.le_trans hBw K1.out.size) (fun e => by have := HXO.out _ e; omega) (HO.out.keep0 K1.out) (HDS.out.keep0 K1.out) HPG.out hdl
    intro w' v286 v287 v288 v289 v290 v291 v292 v293 v294 v295 xv' q1 q2 q3 q4
    exact HQ.out w' _ _ _ _ _ _ _ _ _ _ _ _ _ _ _ _  xv' _ q1 q2 q3 ((K1.out.nul _).trans q4 (fun _ _ e => e))
end Go.Proofs.YtdmnflngafbobaaDoor
namespace Go.Proofs.YtdmnflngafbobaaDoor
open Go.RowKit
set_option linter.unusedVariables false
set_option linter.unusedSimpArgs false
set_option maxRecDepth 100000

theorem bit_240 (x : Int) (h : 0 ≤ x ∧ x < 256) : bits .andNot .u8 x 240 = x % 16 := by
  have all : ∀ n : Nat, n < 256 → bits .andNot .u8 (n : Int) 240 = (n : Int) % 16 := by decide +kernel
  obtain ⟨n, rfl⟩ := Int.eq_ofNat_of_zero_le h.1
  exact all n (by omega)

set_option maxHeartbeats 3200000 in
theorem un_p39 {p : Nat → Prop} {bs : List Int} {n c b o g B P0 E : Nat} {two : Bool} {t : TypeId} {rest : List Value} {sv : Value} {h : Hd} {ys : List Ex} {Q : Exit → Act → World → Prop} (w : World) (u2 u3 u5 u6 u7 u8 u9 u10 u11 u13 u14 u15 u16 u17 u18 u19 u20 u21 u22 u23 u24 u25 u26 u27 u28 u29 u30 u31 u32 u33 u34 u35 u36 u37 u38 u39 u40 u41 u42 u43 u44 u45 u46 u47 u48 u49 u50 u51 u52 u53 u54 u55 u56 u57 u58 u59 u60 u61 u62 u63 u64 u65 u66 u67 u68 u69 u70 u71 u72 u73 u74 u75 u76 u77 u78 u79 u80 u81 u82 u83 u84 u85 u86 u87 u88 u89 u90 u91 u92 u93 u94 u95 u96 u97 u98 u99 u100 u101 u102 u103 u104 u105 u106 u107 u108 u109 u110 u111 u112 u113 u114 u115 u116 u117 u118 u119 u120 u121 u122 u123 u124 u125 u126 u127 u128 u129 u130 u131 u132 u133 u134 u135 u136 u137 u138 u139 u140 u141 u142 u143 u144 u145 u146 u147 u148 u149 u150 u151 u152 u153 u154 u155 u156 u157 u158 u159 u160 u161 u162 u163 u164 u165 u166 u167 u168 u169 u170 u171 u172 u173 u174 u175 u176 u177 u178 u179 u180 u181 u182 u183 u184 u185 u186 u187 u188 u189 u190 u191 u192 u193 u194 u195 u196 u197 u198 u199 u200 u201 u202 u203 u204 u205 u206 u207 u208 u209 u210 u211 u212 u213 u214 u215 u216 u217 u218 u219 u220 u221 u222 u223 u224 u225 u226 u227 u228 u229 u230 u231 u232 u233 u234 u235 u236 u237 u238 u239 u240 u241 u242 u243 u244 u245 u246 u247 u248 u249 u250 u251 u252 u253 u254 u255 u256 u257 u258 u259 u260 u261 u262 u263 u264 u265 u266 u267 u268 u269 u270 u271 u272 u273 u274 u275 u276 u277 u278 u279 u280 u281 u282 u283 u284 u285 u286 u287 u288 u289 u290 u291 u292 u293 u294 u295 u296 : Value)
    (hQ : ∀ (w' : World) (xv : Value) (u2 u3 u4 u5 u6 u8 u9 u10 u11 u13 u14 u15 u16 u17 u18 u19 u20 u21 u22 u23 u24 u25 u26 u27 u28 u29 u30 u31 u32 u33 u34 u35 u36 u37 u38 u39 u40 u41 u42 u43 u44 u45 u46 u47 u48 u49 u50 u51 u52 u53 u54 u55 u56 u57 u58 u59 u60 u61 u62 u63 u64 u65 u66 u67 u68 u69 u70 u71 u72 u73 u74 u75 u76 u77 u78 u79 u80 u81 u82 u83 u84 u85 u86 u87 u88 u89 u90 u91 u92 u93 u94 u95 u96 u97 u98 u99 u100 u101 u102 u103 u104 u105 u106 u107 u108 u109 u110 u111 u112 u113 u114 u115 u116 u117 u118 u119 u120 u121 u122 u123 u124 u125 u126 u127 u128 u129 u130 u131 u132 u133 u134 u135 u136 u137 u138 u139 u140 u141 u142 u143 u144 u145 u146 u147 u148 u149 u150 u151 u152 u153 u154 u155 u156 u157 u158 u159 u160 u161 u162 u163 u164 u165 u166 u167 u168 u169 u170 u171 u172 u173 u174 u175 u176 u177 u178 u179 u180 u181 u182 u183 u184 u185 u186 u187 u188 u189 u190 u191 u192 u193 u194 u195 u196 u197 u198 u199 u200 u201 u202 u203 u204 u205 u206 u207 u208 u209 u210 u211 u212 u213 u214 u215 u216 u217 u218 u219 u220 u221 u222 u223 u224 u225 u226 u227 u228 u229 u230 u231 u232 u233 u234 u235 u236 u237 u238 u239 u240 u241 u242 u243 u244 u245 u246 u247 u248 u249 u250 u251 u252 u253 u254 u255 u256 u257 u258 u259 u260 u261 u262 u263 u264 u265 u266 u267 u268 u269 u270 u271 u272 u273 u274 u275 u276 u277 u278 u279 u280 u281 u282 u283 u284 u285 u286 u287 u288 u289 u290 u291 u292 u293 u294 u295 u296 : Value), BL w' g t (uc h sv xv rest) → (∃ ds, Own w' B 139 2 xv ys.length (xcells ys ds) ∧ Ds w' p ys ds) → Keep w w' (fun k => k = g ∨ B ≤ k) →
      Q .normal ⟨List.toArray (.pointer (some ⟨g, 0, none⟩) :: .slice (some ⟨b, o, none⟩) n c :: u2 :: u3 :: u4 :: u5 :: u6 :: u7 :: u8 :: u9 :: u10 :: u11 :: .int .i64 (E : Int) :: u13 :: u14 :: u15 :: u16 :: u17 :: u18 :: u19 :: u20 :: u21 :: u22 :: u23 :: u24 :: u25 :: u26 :: u27 :: u28 :: u29 :: u30 :: u31 :: u32 :: u33 :: u34 :: u35 :: u36 :: u37 :: u38 :: u39 :: u40 :: u41 :: u42 :: u43 :: u44 :: u45 :: u46 :: u47 :: u48 :: u49 :: u50 :: u51 :: u52 :: u53 :: u54 :: u55 :: u56 :: u57 :: u58 :: u59 :: u60 :: u61 :: u62 :: u63 :: u64 :: u65 :: u66 :: u67 :: u68 :: u69 :: u70 :: u71 :: u72 :: u73 :: u74 :: u75 :: u76 :: u77 :: u78 :: u79 :: u80 :: u81 :: u82 :: u83 :: u84 :: u85 :: u86 :: u87 :: u88 :: u89 :: u90 :: u91 :: u92 :: u93 :: u94 :: u95 :: u96 :: u97 :: u98 :: u99 :: u100 :: u101 :: u102 :: u103 :: u104 :: u105 :: u106 :: u107 :: u108 :: u109 :: u110 :: u111 :: u112 :: u113 :: u114 :: u115 :: u116 :: u117 :: u118 :: u119 :: u120 :: u121 :: u122 :: u123 :: u124 :: u125 :: u126 :: u127 :: u128 :: u129 :: u130 :: u131 :: u132 :: u133 :: u134 :: u135 :: u136 :: u137 :: u138 :: u139 :: u140 :: u141 :: u142 :: u143 :: u144 :: u145 :: u146 :: u147 :: u148 :: u149 :: u150 :: u151 :: u152 :: u153 :: u154 :: u155 :: u156 :: u157 :: u158 :: u159 :: u160 :: u161 :: u162 :: u163 :: u164 :: u165 :: u166 :: u167 :: u168 :: u169 :: u170 :: u171 :: u172 :: u173 :: u174 :: u175 :: u176 :: u177 :: u178 :: u179 :: u180 :: u181 :: u182 :: u183 :: u184 :: u185 :: u186 :: u187 :: u188 :: u189 :: u190 :: u191 :: u192 :: u193 :: u194 :: u195 :: u196 :: u197 :: u198 :: u199 :: u200 :: u201 :: u202 :: u203 :: u204 :: u205 :: u206 :: u207 :: u208 :: u209 :: u210 :: u211 :: u212 :: u213 :: u214 :: u215 :: u216 :: u217 :: u218 :: u219 :: u220 :: u221 :: u222 :: u223 :: u224 :: u225 :: u226 :: u227 :: u228 :: u229 :: u230 :: u231 :: u232 :: u233 :: u234 :: u235 :: u236 :: u237 :: u238 :: u239 :: u240 :: u241 :: u242 :: u243 :: u244 :: u245 :: u246 :: u247 :: u248 :: u249 :: u250 :: u251 :: u252 :: u253 :: u254 :: u255 :: u256 :: u257 :: u258 :: u259 :: u260 :: u261 :: u262 :: u263 :: u264 :: u265 :: u266 :: u267 :: u268 :: u269 :: u270 :: u271 :: u272 :: u273 :: u274 :: u275 :: u276 :: u277 :: u278 :: u279 :: u280 :: u281 :: u282 :: u283 :: u284 :: u285 :: u286 :: u287 :: u288 :: u289 :: u290 :: u291 :: u292 :: u293 :: u294 :: u295 :: u296 :: []), []⟩ w')
    (hR : Rd w p 1 (.slice (some ⟨b, o, none⟩) n c) n (B8 bs)) (hI : IsB bs) (hPE : P0 ≤ E) (hE : E ≤ n) (hnm : n ≤ 2147483647) (hn0 : 0 < n) (hprof : h.prof = if two then 4096 else 48862) (hr : rx two (pieceB bs P0 E) = some ys) (hyl : ys.length ≤ 1000000)
    (hG : BL w g t (uc h sv (.slice none 0 0) rest)) (hgB : g < B) (hBw : B ≤ w.heap.size) (hpg : ∀ i, p i → i ≠ g ∧ i < B) :
    Part Tryd.prog Tryd.f71 39 Q ⟨List.toArray (.pointer (some ⟨g, 0, none⟩) :: .slice (some ⟨b, o, none⟩) n c :: u2 :: u3 :: .int .i64 (P0 : Int) :: u5 :: u6 :: u7 :: u8 :: u9 :: u10 :: u11 :: .int .i64 (E : Int) :: u13 :: u14 :: u15 :: u16 :: u17 :: u18 :: u19 :: u20 :: u21 :: u22 :: u23 :: u24 :: u25 :: u26 :: u27 :: u28 :: u29 :: u30 :: u31 :: u32 :: u33 :: u34 :: u35 :: u36 :: u37 :: u38 :: u39 :: u40 :: u41 :: u42 :: u43 :: u44 :: u45 :: u46 :: u47 :: u48 :: u49 :: u50 :: u51 :: u52 :: u53 :: u54 :: u55 :: u56 :: u57 :: u58 :: u59 :: u60 :: u61 :: u62 :: u63 :: u64 :: u65 :: u66 :: u67 :: u68 :: u69 :: u70 :: u71 :: u72 :: u73 :: u74 :: u75 :: u76 :: u77 :: u78 :: u79 :: u80 :: u81 :: u82 :: u83 :: u84 :: u85 :: u86 :: u87 :: u88 :: u89 :: u90 :: u91 :: u92 :: u93 :: u94 :: u95 :: u96 :: u97 :: u98 :: u99 :: u100 :: u101 :: u102 :: u103 :: u104 :: u105 :: u106 :: u107 :: u108 :: u109 :: u110 :: u111 :: u112 :: u113 :: u114 :: u115 :: u116 :: u117 :: u118 :: u119 :: u120 :: u121 :: u122 :: u123 :: u124 :: u125 :: u126 :: u127 :: u128 :: u129 :: u130 :: u131 :: u132 :: u133 :: u134 :: u135 :: u136 :: u137 :: u138 :: u139 :: u140 :: u141 :: u142 :: u143 :: u144 :: u145 :: u146 :: u147 :: u148 :: u149 :: u150 :: u151 :: u152 :: u153 :: u154 :: u155 :: u156 :: u157 :: u158 :: u159 :: u160 :: u161 :: u162 :: u163 :: u164 :: u165 :: u166 :: u167 :: u168 :: u169 :: u170 :: u171 :: u172 :: u173 :: u174 :: u175 :: u176 :: u177 :: u178 :: u179 :: u180 :: u181 :: u182 :: u183 :: u184 :: u185 :: u186 :: u187 :: u188 :: u189 :: u190 :: u191 :: u192 :: u193 :: u194 :: u195 :: u196 :: u197 :: u198 :: u199 :: u200 :: u201 :: u202 :: u203 :: u204 :: u205 :: u206 :: u207 :: u208 :: u209 :: u210 :: u211 :: u212 :: u213 :: u214 :: u215 :: u216 :: u217 :: u218 :: u219 :: u220 :: u221 :: u222 :: u223 :: u224 :: u225 :: u226 :: u227 :: u228 :: u229 :: u230 :: u231 :: u232 :: u233 :: u234 :: u235 :: u236 :: u237 :: u238 :: u239 :: u240 :: u241 :: u242 :: u243 :: u244 :: u245 :: u246 :: u247 :: u248 :: u249 :: u250 :: u251 :: u252 :: u253 :: u254 :: u255 :: u256 :: u257 :: u258 :: u259 :: u260 :: u261 :: u262 :: u263 :: u264 :: u265 :: u266 :: u267 :: u268 :: u269 :: u270 :: u271 :: u272 :: u273 :: u274 :: u275 :: u276 :: u277 :: u278 :: u279 :: u280 :: u281 :: u282 :: u283 :: u284 :: u285 :: u286 :: u287 :: u288 :: u289 :: u290 :: u291 :: u292 :: u293 :: u294 :: u295 :: u296 :: []), []⟩ w := by
  have HQ := hide hQ
  have HPG := hide hpg
  have HI := hide hI
  have HG := hide hG
  have HR := hide hR
  have HX := hide hr
  have HYL := hide hyl
  have HPR := hide hprof
  have hl : bs.length = n := by have := hR.len; rwa [B8_len] at this
  have HL := hide hl
  obtain ⟨_, _, _, hvv, hnc, hcm, hpb, hbw, hcc⟩ := hR.lit (by omega)
  clear hcc
  injection hvv with e1 _ e3
  injection e1 with e1
  injection e1 with e1 e2
  subst e1 e2 e3
  have hgw := hG.lt
  clear hQ hpg hI hG hR hr hyl hprof hl
  refine part_open (fun c hc K hK => ?_)
  conv at hc => rhs; whnf
  subst hc
  dsimp only [xOf, yOf] at hK ⊢
  go_wp2_with fail
  go_loopw [4, 13, 14, 15, 16] (fun s4 s13 s14 s15 s16 wr => ∃ (P : Nat) (done rem : List Ex) (ds : List Value) (xv : Value), s4 = .int .i64 (P : Int) ∧ P ≤ E ∧ rx two (pieceB bs P E) = some rem ∧ ys = done ++ rem ∧ BL wr g t (uc h sv xv rest) ∧ Own wr B 139 2 xv done.length (xcells done ds) ∧ Ds wr p done ds ∧ Keep w wr (fun k => k = g ∨ B ≤ k)) (fun s4 _ _ _ _ _ => E - (intOf s4).toNat)
  case atStart => exact ⟨P0, [], ys, [], .slice none 0 0, rfl, hPE, HX.out, rfl, HG.out, Own.nil_ _ _ _ _, ⟨rfl, by simp⟩, Keep.refl _ _⟩
  case round =>
    obtain ⟨P, done, rem, ds, xv, rfl, hPe, hrm, hys, hG, hO, hD, hK⟩ := hrel
    by_cases hlt : P < E
    · have HRM := hide hrm
      have HYS := hide hys
      have G1 := hide hG
      have O1 := hide hO
      have D1 := hide hD
      have K1 := hide hK
      have RW := hide (HR.out.keep hK (fun i _ hi e => by have := HPG.out i hi; omega))
      have r0 := g8_rng HI.out P
      have c0 := rd_at RW.out P (by omega)
      have hgl := hG.lt
      have x9 := hG.cell 9 (v := .int .u16 h.prof) rfl
      have hdl : done.length ≤ 1000000 := by have := HYL.out; rw [hys, List.length_append] at this; omega
      have hbw' : b < wr.heap.size := Nat.lt_of_lt_of_le hbw hK.size
      have hBr : B ≤ wr.heap.size := Nat.le_trans hBw hK.size
      clear hrm hys hG hO hD hK
      generalize hz : g8 bs P = z at r0 c0
      have HZ := hide hz
      clear hz
      by_cases h0 : z = 0
      · subst h0
        go_wp2_with fail
        go_roundw
        case rel => exact ⟨P + 1, done, rem, ds, xv, by go_num, by omega, step_zero hlt (by have := HL.out; omega) HZ.out HRM.out, HYS.out, G1.out, O1.out, D1.out, K1.out⟩
        case measure => simp [intOf]; omega
      · have z0 : (z == 0) = false := by simpa using h0
        cases two with
        | false =>
          obtain ⟨q1, q2, q3, ys', q4, q5⟩ := step_one hlt (by have := HL.out; omega) (by rw [HZ.out]; exact h0) HRM.out
          rw [HZ.out] at q1 q2 q3 q4 q5
          have hpr : h.prof = 48862 := HPR.out
          rw [hpr] at x9
          have hb := bit_240 z r0
          have s1 : (z / 16 == 15) = false := by simpa using q2
          have s2 : (z / 16 == 0) = false := by simpa using q3
          have s3 : ¬ (E : Int) < (P : Int) + 1 + (z % 16 + 1) := by omega
          have Q4 := hide q4
          have Q5 := hide q5
          clear q4 q5
          go_upto_region 58 with fail
          refine part_use (un_p58i wr (P + 1) ((z % 16).toNat + 1) ((P : Int) + 1) (z % 16 + 1) (by omega) (by omega) _ _ _ _ _ _ _ _ _ _ _ _ _ _ _ _ _ _ _ _ _ _ _ _ _ _ _ _ _ _ _ _ _ _ _ _ _ _ _ _ _ _ _ _ _ _ _ _ _ _ _ _ _ _ _ _ _ _ _ _ _ _ _ _ _ _ _ _ _ _ _ _ _ _ _ _ _ _ _ _ _ _ _ _ _ _ _ _ _ _ _ _ _ _ _ _ _ _ _ _ _ _ _ _ _ _ _ _ _ _ _ _ _ _ _ _ _ _ _ _ _ _ _ _ _ _ _ _ _ _ _ _ _ _ _ _ _ _ _ _ _ _ _ _ _ _ _ _ _ _ _ _ _ _ _ _ _ _ _ _ _ _ _ _ _ _ _ _ _ _ _ _ _ _ _ _ _ _ _ _ _ _ _ _ _ _ _ _ _ _ _ _ _ _ _ _ _ _ _ _ _ _ _ _ _ _ _ _ _ _ _ _ _ _ _ _ _ _ _ _ _ _ _ _ _ _ _ _ _ _ _ _ _ _ _ _ _ _ _ _ _ _ _ _ _ _ _ _ _ _ _ _ _ _ _ _ _ _ _ _ _ _ _ _ _ _ _ _ _ _ _ _ _ _ _ _ _ _ _ _ _ _ _ _ _ _ _ _ _ _ _ _ ?_ RW.out (by omega) hnm hn0 G1.out hgB hBr O1.out D1.out HPG.out hdl) rfl rfl (by assumption)
          intro w' v16 v260 v261 v262 v263 v264 v265 v266 v267 v268 v269 v270 v271 v272 v273 v274 v275 v276 v277 v278 v279 v280 xv' d g1 o1 d1 k1
          have k2 := K1.out.trans k1 (S' := fun k => k = g ∨ xv.ownBlock = some k) (fun i _ e => e.elim .inl (fun e => .inr (O1.out.at_ i e).1))
          have e1 : (done ++ [(⟨z / 16, (bs.drop (P + 1)).take ((z % 16).toNat + 1)⟩ : Ex)]).length = done.length + 1 := by simp
          have G2 := hide g1
          have O2 := hide (e1 ▸ o1)
          have D2 := hide d1
          have K2 := hide k2
          clear g1 o1 d1 k1 k2 e1
          go_roundw
          case rel => exact ⟨_, _, _, _, _, _, _, _, _, _, _, _, _, _, _, _, _, _, _, _, _, _, _, _, _, _, _, _, _, _, _, _, _, _, _, _, _, _, _, _, _, _, _, _, _, _, _, _, _, _, _, _, _, _, _, _, _, _, _, _, _, _, _, _, _, _, _, _, _, _, _, _, _, _, _, _, _, _, _, _, _, _, _, _, _, _, _, _, ⟨P + 1 + ((z % 16).toNat + 1), _, ys', _, xv', by congr 1; omega, by omega, Q5.out, by rw [HYS.out, Q4.out, List.append_assoc]; rfl, G2.out, O2.out, D2.out, K2.out⟩, rfl⟩
          case measure => simp [intOf]; omega
        | true =>
          obtain ⟨q1, q2, ys', q4, q5⟩ := step_two hlt (by have := HL.out; omega) (by rw [HZ.out]; exact h0) HRM.out
          rw [HZ.out] at q4
          have hpr : h.prof = 4096 := HPR.out
          rw [hpr] at x9
          have r1 := g8_rng HI.out (P + 1)
          have c1 := rd_at RW.out (P + 1) (by omega)
          have n1 : ((P : Int) + 1).toNat = P + 1 := by omega
          generalize hy : g8 bs (P + 1) = y at r1 c1 q2 q4 q5
          have s1 : ¬ (E : Int) ≤ (P : Int) + 1 := by omega
          have s3 : ¬ (E : Int) < (P : Int) + 1 + 1 + y := by omega
          have Q4 := hide q4
          have Q5 := hide q5
          clear q4 q5 hy
          go_upto_region 58 with fail
          refine part_use (un_p58i wr (P + 2) y.toNat ((P : Int) + 1 + 1) y (by omega) (by omega) _ _ _ _ _ _ _ _ _ _ _ _ _ _ _ _ _ _ _ _ _ _ _ _ _ _ _ _ _ _ _ _ _ _ _ _ _ _ _ _ _ _ _ _ _ _ _ _ _ _ _ _ _ _ _ _ _ _ _ _ _ _ _ _ _ _ _ _ _ _ _ _ _ _ _ _ _ _ _ _ _ _ _ _ _ _ _ _ _ _ _ _ _ _ _ _ _ _ _ _ _ _ _ _ _ _ _ _ _ _ _ _ _ _ _ _ _ _ _ _ _ _ _ _ _ _ _ _ _ _ _ _ _ _ _ _ _ _ _ _ _ _ _ _ _ _ _ _ _ _ _ _ _ _ _ _ _ _ _ _ _ _ _ _ _ _ _ _ _ _ _ _ _ _ _ _ _ _ _ _ _ _ _ _ _ _ _ _ _ _ _ _ _ _ _ _ _ _ _ _ _ _ _ _ _ _ _ _ _ _ _ _ _ _ _ _ _ _ _ _ _ _ _ _ _ _ _ _ _ _ _ _ _ _ _ _ _ _ _ _ _ _ _ _ _ _ _ _ _ _ _ _ _ _ _ _ _ _ _ _ _ _ _ _ _ _ _ _ _ _ _ _ _ _ _ _ _ _ _ _ _ _ _ _ _ _ _ _ _ _ _ _ ?_ RW.out (by omega) hnm hn0 G1.out hgB hBr O1.out D1.out HPG.out hdl) rfl rfl (by assumption)
          intro w' v16 v260 v261 v262 v263 v264 v265 v266 v267 v268 v269 v270 v271 v272 v273 v274 v275 v276 v277 v278 v279 v280 xv' d g1 o1 d1 k1
          have k2 := K1.out.trans k1 (S' := fun k => k = g ∨ xv.ownBlock = some k) (fun i _ e => e.elim .inl (fun e => .inr (O1.out.at_ i e).1))
          have e1 : (done ++ [(⟨z, (bs.drop (P + 2)).take y.toNat⟩ : Ex)]).length = done.length + 1 := by simp
          have G2 := hide g1
          have O2 := hide (e1 ▸ o1)
          have D2 := hide d1
          have K2 := hide k2
          clear g1 o1 d1 k1 k2 e1
          go_roundw
          case rel => exact ⟨_, _, _, _, _, _, _, _, _, _, _, _, _, _, _, _, _, _, _, _, _, _, _, _, _, _, _, _, _, _, _, _, _, _, _, _, _, _, _, _, _, _, _, _, _, _, _, _, _, _, _, _, _, _, _, _, _, _, _, _, _, _, _, _, _, _, _, _, _, _, _, _, _, _, _, _, _, _, _, _, _, _, _, _, _, _, _, _, ⟨P + 2 + y.toNat, _, ys', _, xv', by congr 1; omega, by omega, Q5.out, by rw [HYS.out, Q4.out, List.append_assoc]; rfl, G2.out, O2.out, D2.out, K2.out⟩, rfl⟩
          case measure => simp [intOf]; omega
    · obtain rfl : P = E := by omega
      rw [piece_nil, rx_nil] at hrm
      injection hrm with hrm
      subst hrm
      rw [List.append_nil] at hys
      subst hys
      have G1 := hide hG
      have O1 := hide hO
      have D1 := hide hD
      have K1 := hide hK
      clear hG hO hD hK
      go_wp2_with fail
      exact HQ.out _ _ _ _ _ _ _ _ _ _ _ _ _ _ _ _ _ _ _ _ _ _ _ _ _ _ _ _ _ _ _ _ _ _ _ _ _ _ _ _ _ _ _ _ _ _ _ _ _ _ _ _ _ _ _ _ _ _ _ _ _ _ _ _ _ _ _ _ _ _ _ _ _ _ _ _ _ _ _ _ _ _ _ _ _ _ _ _ _ _ _ _ _ _ _ _ _ _ _ _ _ _ _ _ _ _ _ _ _ _ _ _ _ _ _ _ _ _ _ _ _ _ _ _ _ _ _ _ _ _ _ _ _ _ _ _ _ _ _ _ _ _ _ _ _ _ _ _ _ _ _ _ _ _ _ _ _ _ _ _ _ _ _ _ _ _ _ _ _ _ _ _ _ _ _ _ _ _ _ _ _ _ _ _ _ _ _ _ _ _ _ _ _ _ _ _ _ _ _ _ _ _ _ _ _ _ _ _ _ _ _ _ _ _ _ _ _ _ _ _ _ _ _ _ _ _ _ _ _ _ _ _ _ _ _ _ _ _ _ _ _ _ _ _ _ _ _ _ _ _ _ _ _ _ _ _ _ _ _ _ _ _ _ _ _ _ _ _ _ _ _ _ _ _ _ _ _ _ _ _ _ _ _ _ _ _ _ _ _ _ _ _ _ _ _ G1.out ⟨ds, O1.out, D1.out⟩ K1.out
end Go.Proofs.YtdmnflngafbobaaDoor
namespace Go.Proofs.YtdmnflngafbobaaDoor
open Go.RowKit
set_option linter.unusedVariables false
set_option linter.unusedSimpArgs false
set_option maxRecDepth 100000

theorem un_p63 {post : Ending → World → Prop} {e : Int} (w : World) (u0 u1 u2 u3 u4 u5 u6 u8 u9 u10 u11 u12 u13 u14 u15 u16 u17 u18 u19 u20 u21 u22 u23 u24 u25 u26 u27 u28 u29 u30 u31 u32 u33 u34 u35 u36 u37 u38 u39 u40 u41 u42 u43 u44 u45 u46 u47 u48 u49 u50 u51 u52 u53 u54 u55 u56 u57 u58 u59 u60 u61 u62 u63 u64 u65 u66 u67 u68 u69 u70 u71 u72 u73 u74 u75 u76 u77 u78 u79 u80 u81 u82 u83 u84 u85 u86 u87 u88 u89 u90 u91 u92 u93 u94 u95 u96 u97 u98 u99 u100 u101 u102 u103 u104 u105 u106 u107 u108 u109 u110 u111 u112 u113 u114 u115 u116 u117 u118 u119 u120 u121 u122 u123 u124 u125 u126 u127 u128 u129 u130 u131 u132 u133 u134 u135 u136 u137 u138 u139 u140 u141 u142 u143 u144 u145 u146 u147 u148 u149 u150 u151 u152 u153 u154 u155 u156 u157 u158 u159 u160 u161 u162 u163 u164 u165 u166 u167 u168 u169 u170 u171 u172 u173 u174 u175 u176 u177 u178 u179 u180 u181 u182 u183 u184 u185 u186 u187 u188 u189 u190 u191 u192 u193 u194 u195 u196 u197 u198 u199 u200 u201 u202 u203 u204 u205 u206 u207 u208 u209 u210 u211 u212 u213 u214 u215 u216 u217 u218 u219 u220 u221 u222 u223 u224 u225 u226 u227 u228 u229 u230 u231 u232 u233 u234 u235 u236 u237 u238 u239 u240 u241 u242 u243 u244 u245 u246 u247 u248 u249 u250 u251 u252 u253 u254 u255 u256 u257 u258 u259 u260 u261 u262 u263 u264 u265 u266 u267 u268 u269 u270 u271 u272 u273 u274 u275 u276 u277 u278 u279 u280 u281 u282 u283 u284 u285 u286 u287 u288 u289 u290 u291 u292 u293 u294 u295 u296 : Value) (hp : post (.returned (.tuple #[.int .i64 e, Value.nilIface])) w) :
    (fromR Tryd.f71 63).wp Tryd.prog (bodyPost Tryd.prog Tryd.f71 post) ⟨List.toArray (u0 :: u1 :: u2 :: u3 :: u4 :: u5 :: u6 :: .int .i64 e :: u8 :: u9 :: u10 :: u11 :: u12 :: u13 :: u14 :: u15 :: u16 :: u17 :: u18 :: u19 :: u20 :: u21 :: u22 :: u23 :: u24 :: u25 :: u26 :: u27 :: u28 :: u29 :: u30 :: u31 :: u32 :: u33 :: u34 :: u35 :: u36 :: u37 :: u38 :: u39 :: u40 :: u41 :: u42 :: u43 :: u44 :: u45 :: u46 :: u47 :: u48 :: u49 :: u50 :: u51 :: u52 :: u53 :: u54 :: u55 :: u56 :: u57 :: u58 :: u59 :: u60 :: u61 :: u62 :: u63 :: u64 :: u65 :: u66 :: u67 :: u68 :: u69 :: u70 :: u71 :: u72 :: u73 :: u74 :: u75 :: u76 :: u77 :: u78 :: u79 :: u80 :: u81 :: u82 :: u83 :: u84 :: u85 :: u86 :: u87 :: u88 :: u89 :: u90 :: u91 :: u92 :: u93 :: u94 :: u95 :: u96 :: u97 :: u98 :: u99 :: u100 :: u101 :: u102 :: u103 :: u104 :: u105 :: u106 :: u107 :: u108 :: u109 :: u110 :: u111 :: u112 :: u113 :: u114 :: u115 :: u116 :: u117 :: u118 :: u119 :: u120 :: u121 :: u122 :: u123 :: u124 :: u125 :: u126 :: u127 :: u128 :: u129 :: u130 :: u131 :: u132 :: u133 :: u134 :: u135 :: u136 :: u137 :: u138 :: u139 :: u140 :: u141 :: u142 :: u143 :: u144 :: u145 :: u146 :: u147 :: u148 :: u149 :: u150 :: u151 :: u152 :: u153 :: u154 :: u155 :: u156 :: u157 :: u158 :: u159 :: u160 :: u161 :: u162 :: u163 :: u164 :: u165 :: u166 :: u167 :: u168 :: u169 :: u170 :: u171 :: u172 :: u173 :: u174 :: u175 :: u176 :: u177 :: u178 :: u179 :: u180 :: u181 :: u182 :: u183 :: u184 :: u185 :: u186 :: u187 :: u188 :: u189 :: u190 :: u191 :: u192 :: u193 :: u194 :: u195 :: u196 :: u197 :: u198 :: u199 :: u200 :: u201 :: u202 :: u203 :: u204 :: u205 :: u206 :: u207 :: u208 :: u209 :: u210 :: u211 :: u212 :: u213 :: u214 :: u215 :: u216 :: u217 :: u218 :: u219 :: u220 :: u221 :: u222 :: u223 :: u224 :: u225 :: u226 :: u227 :: u228 :: u229 :: u230 :: u231 :: u232 :: u233 :: u234 :: u235 :: u236 :: u237 :: u238 :: u239 :: u240 :: u241 :: u242 :: u243 :: u244 :: u245 :: u246 :: u247 :: u248 :: u249 :: u250 :: u251 :: u252 :: u253 :: u254 :: u255 :: u256 :: u257 :: u258 :: u259 :: u260 :: u261 :: u262 :: u263 :: u264 :: u265 :: u266 :: u267 :: u268 :: u269 :: u270 :: u271 :: u272 :: u273 :: u274 :: u275 :: u276 :: u277 :: u278 :: u279 :: u280 :: u281 :: u282 :: u283 :: u284 :: u285 :: u286 :: u287 :: u288 :: u289 :: u290 :: u291 :: u292 :: u293 :: u294 :: u295 :: u296 :: []), []⟩ w := by
  have HP := hide hp
  clear hp
  generalize hc : fromR Tryd.f71 63 = c
  conv at hc => lhs; whnf
  subst hc
  go_wp2_with fail
  (try go_ret2)
  exact HP.out

set_option maxHeartbeats 3200000 in
theorem un_p35 {p : Nat → Prop} {bs : List Int} {n c b o g B P E : Nat} {t te : TypeId} {ve : Value} {rest : List Value} {sv : Value} {h : Hd} {post : Ending → World → Prop} {KK : Act → World → Prop} (w : World) (u2 u3 u5 u6 u7 u8 u9 u10 u11 u13 u14 u15 u16 u17 u18 u19 u20 u21 u22 u23 u24 u25 u26 u27 u28 u29 u30 u31 u32 u33 u34 u35 u36 u37 u38 u39 u40 u41 u42 u43 u44 u45 u46 u47 u48 u49 u50 u51 u52 u53 u54 u55 u56 u57 u58 u59 u60 u61 u62 u63 u64 u65 u66 u67 u68 u69 u70 u71 u72 u73 u74 u75 u76 u77 u78 u79 u80 u81 u82 u83 u84 u85 u86 u87 u88 u89 u90 u91 u92 u93 u94 u95 u96 u97 u98 u99 u100 u101 u102 u103 u104 u105 u106 u107 u108 u109 u110 u111 u112 u113 u114 u115 u116 u117 u118 u119 u120 u121 u122 u123 u124 u125 u126 u127 u128 u129 u130 u131 u132 u133 u134 u135 u136 u137 u138 u139 u140 u141 u142 u143 u144 u145 u146 u147 u148 u149 u150 u151 u152 u153 u154 u155 u156 u157 u158 u159 u160 u161 u162 u163 u164 u165 u166 u167 u168 u169 u170 u171 u172 u173 u174 u175 u176 u177 u178 u179 u180 u181 u182 u183 u184 u185 u186 u187 u188 u189 u190 u191 u192 u193 u194 u195 u196 u197 u198 u199 u200 u201 u202 u203 u204 u205 u206 u207 u208 u209 u210 u211 u212 u213 u214 u215 u216 u217 u218 u219 u220 u221 u222 u223 u224 u225 u226 u227 u228 u229 u230 u231 u232 u233 u234 u235 u236 u237 u238 u239 u240 u241 u242 u243 u244 u245 u246 u247 u248 u249 u250 u251 u252 u253 u254 u255 u256 u257 u258 u259 u260 u261 u262 u263 u264 u265 u266 u267 u268 u269 u270 u271 u272 u273 u274 u275 u276 u277 u278 u279 u280 u281 u282 u283 u284 u285 u286 u287 u288 u289 u290 u291 u292 u293 u294 u295 u296 : Value)
    (hKK : ∀ a w, (fromR Tryd.f71 63).wp Tryd.prog (bodyPost Tryd.prog Tryd.f71 post) a w → KK a w)
    (hbad : ∀ (m : Int) (w' : World), n < E → BL w' g t (uc h sv (.slice none 0 0) rest) → Keep w w' (· = g) → post (.returned (.tuple #[.int .i64 m, .iface te ve])) w')
    (hgood : ∀ (w' : World) (xv : Value) (ys : List Ex), E ≤ n → extsOf h.prof (pieceB bs P E) = some ys → BL w' g t (uc h sv xv rest) → (∃ ds, Own w' B 139 2 xv ys.length (xcells ys ds) ∧ Ds w' p ys ds) → Keep w w' (fun k => k = g ∨ B ≤ k) →
      post (.returned (.tuple #[.int .i64 (E : Int), Value.nilIface])) w')
    (hv : E ≤ n → extsOf h.prof (pieceB bs P E) ≠ none)
    (hR : Rd w p 1 (.slice (some ⟨b, o, none⟩) n c) n (B8 bs)) (hI : IsB bs) (hPE : P ≤ E) (hEs : E ≤ 600000) (hnm : n ≤ 2147483647) (hn0 : 0 < n)
    (hG : BL w g t (uc h sv (.slice none 0 0) rest)) (hgB : g < B) (hBw : B ≤ w.heap.size) (hpg : ∀ i, p i → i ≠ g ∧ i < B) (he : w.cell? ⟨3, 0, none⟩ = some (.iface te ve)) :
    Part Tryd.prog Tryd.f71 35 (Exit.then KK (bodyPost Tryd.prog Tryd.f71 post)) ⟨List.toArray (.pointer (some ⟨g, 0, none⟩) :: .slice (some ⟨b, o, none⟩) n c :: u2 :: u3 :: .int .i64 (P : Int) :: u5 :: u6 :: u7 :: u8 :: u9 :: u10 :: u11 :: .int .i64 (E : Int) :: u13 :: u14 :: u15 :: u16 :: u17 :: u18 :: u19 :: u20 :: u21 :: u22 :: u23 :: u24 :: u25 :: u26 :: u27 :: u28 :: u29 :: u30 :: u31 :: u32 :: u33 :: u34 :: u35 :: u36 :: u37 :: u38 :: u39 :: u40 :: u41 :: u42 :: u43 :: u44 :: u45 :: u46 :: u47 :: u48 :: u49 :: u50 :: u51 :: u52 :: u53 :: u54 :: u55 :: u56 :: u57 :: u58 :: u59 :: u60 :: u61 :: u62 :: u63 :: u64 :: u65 :: u66 :: u67 :: u68 :: u69 :: u70 :: u71 :: u72 :: u73 :: u74 :: u75 :: u76 :: u77 :: u78 :: u79 :: u80 :: u81 :: u82 :: u83 :: u84 :: u85 :: u86 :: u87 :: u88 :: u89 :: u90 :: u91 :: u92 :: u93 :: u94 :: u95 :: u96 :: u97 :: u98 :: u99 :: u100 :: u101 :: u102 :: u103 :: u104 :: u105 :: u106 :: u107 :: u108 :: u109 :: u110 :: u111 :: u112 :: u113 :: u114 :: u115 :: u116 :: u117 :: u118 :: u119 :: u120 :: u121 :: u122 :: u123 :: u124 :: u125 :: u126 :: u127 :: u128 :: u129 :: u130 :: u131 :: u132 :: u133 :: u134 :: u135 :: u136 :: u137 :: u138 :: u139 :: u140 :: u141 :: u142 :: u143 :: u144 :: u145 :: u146 :: u147 :: u148 :: u149 :: u150 :: u151 :: u152 :: u153 :: u154 :: u155 :: u156 :: u157 :: u158 :: u159 :: u160 :: u161 :: u162 :: u163 :: u164 :: u165 :: u166 :: u167 :: u168 :: u169 :: u170 :: u171 :: u172 :: u173 :: u174 :: u175 :: u176 :: u177 :: u178 :: u179 :: u180 :: u181 :: u182 :: u183 :: u184 :: u185 :: u186 :: u187 :: u188 :: u189 :: u190 :: u191 :: u192 :: u193 :: u194 :: u195 :: u196 :: u197 :: u198 :: u199 :: u200 :: u201 :: u202 :: u203 :: u204 :: u205 :: u206 :: u207 :: u208 :: u209 :: u210 :: u211 :: u212 :: u213 :: u214 :: u215 :: u216 :: u217 :: u218 :: u219 :: u220 :: u221 :: u222 :: u223 :: u224 :: u225 :: u226 :: u227 :: u228 :: u229 :: u230 :: u231 :: u232 :: u233 :: u234 :: u235 :: u236 :: u237 :: u238 :: u239 :: u240 :: u241 :: u242 :: u243 :: u244 :: u245 :: u246 :: u247 :: u248 :: u249 :: u250 :: u251 :: u252 :: u253 :: u254 :: u255 :: u256 :: u257 :: u258 :: u259 :: u260 :: u261 :: u262 :: u263 :: u264 :: u265 :: u266 :: u267 :: u268 :: u269 :: u270 :: u271 :: u272 :: u273 :: u274 :: u275 :: u276 :: u277 :: u278 :: u279 :: u280 :: u281 :: u282 :: u283 :: u284 :: u285 :: u286 :: u287 :: u288 :: u289 :: u290 :: u291 :: u292 :: u293 :: u294 :: u295 :: u296 :: []), []⟩ w := by
  have HKK := hide hKK
  have HB := hide hbad
  have HGD := hide hgood
  have HV := hide hv
  have HPG := hide hpg
  have HI := hide hI
  have HG := hide hG
  have HR := hide hR
  have HE := hide he
  have hl : bs.length = n := by have := hR.len; rwa [B8_len] at this
  have HL := hide hl
  have x9 := hG.cell 9 (v := .int .u16 h.prof) rfl
  have hgw := hG.lt
  clear hKK hbad hgood hv hpg hI hG hR he hl
  refine part_open (fun c hc K hK => ?_)
  conv at hc => rhs; whnf
  subst hc
  dsimp only [xOf, yOf] at hK ⊢
  by_cases hs : n < E
  · have hs1 : (n : Int) < (E : Int) := by omega
    have q3 : ∀ m, (w.drewN m).cell? ⟨3, 0, none⟩ = some (.iface te ve) := fun m => ((Keep.refl w Nul).drewN m).cell (fun e => e) HE.out
    go_upto_region 37 with fail
    go_quiet (fail)
    go_wp2_with fail
    (try go_ret2)
    exact HB.out _ _ hs (HG.out.keep ((Keep.refl w Nul).drewN _) (fun h => h)) ((Keep.refl w _).drewN _)
  · have hs1 : ¬ (n : Int) < (E : Int) := by omega
    have hnE : E ≤ n := by omega
    cases hx : extsOf h.prof (pieceB bs P E) with
    | none => exact absurd hx (HV.out hnE)
    | some ys =>
      have HX := hide hx
      obtain ⟨c1, c2⟩ : ys.length ≤ 1000000 ∧ True := by
        refine ⟨?_, trivial⟩
        have hpl := piece_len (bs := bs) (P := P) (E := E) (by rw [HL.out]; exact hnE)
        unfold extsOf at hx
        split at hx
        · cases hx
        · split at hx
          · injection hx with hx; subst hx; simp
          · have := (readX_count _ _ _ _ hx).1; omega
      unfold extsOf at hx
      split at hx
      · cases hx
      · rename_i hplain
        split at hx
        · rename_i hown
          injection hx with hx
          subst hx
          have s1 : (h.prof == 48862) = false := by simpa using hown.1
          have s2 : (h.prof == 4096) = false := by simpa using hown.2
          obtain ⟨m, rfl⟩ : ∃ m, E = P + m := ⟨E - P, by omega⟩
          go_upto_region 61 with fail
          refine part_use (un_p61 (P := P) (m := m) (p := p) (B := B) (h := h) (done := []) (ds := []) (xv := .slice none 0 0) w _ _ _ _ _ _ _ _ _ _ _ _ _ _ _ _ _ _ _ _ _ _ _ _ _ _ _ _ _ _ _ _ _ _ _ _ _ _ _ _ _ _ _ _ _ _ _ _ _ _ _ _ _ _ _ _ _ _ _ _ _ _ _ _ _ _ _ _ _ _ _ _ _ _ _ _ _ _ _ _ _ _ _ _ _ _ _ _ _ _ _ _ _ _ _ _ _ _ _ _ _ _ _ _ _ _ _ _ _ _ _ _ _ _ _ _ _ _ _ _ _ _ _ _ _ _ _ _ _ _ _ _ _ _ _ _ _ _ _ _ _ _ _ _ _ _ _ _ _ _ _ _ _ _ _ _ _ _ _ _ _ _ _ _ _ _ _ _ _ _ _ _ _ _ _ _ _ _ _ _ _ _ _ _ _ _ _ _ _ _ _ _ _ _ _ _ _ _ _ _ _ _ _ _ _ _ _ _ _ _ _ _ _ _ _ _ _ _ _ _ _ _ _ _ _ _ _ _ _ _ _ _ _ _ _ _ _ _ _ _ _ _ _ _ _ _ _ _ _ _ _ _ _ _ _ _ _ _ _ _ _ _ _ _ _ _ _ _ _ _ _ _ _ _ _ _ _ _ _ _ _ _ _ _ _ _ _ _ _ _ _ _ _ ?_ HR.out (by omega) hnm hn0 HG.out hgB hBw (Own.nil_ _ _ _ _) ⟨rfl, by simp⟩ HPG.out (by simp)) rfl rfl (by assumption)
          intro w' v17 v281 v282 v283 v284 v285 v286 v287 v288 v289 v290 v291 v292 v293 v294 v295 xv' d q1 q2 q3 q4
          refine HKK.out _ _ ?_
          refine un_p63 w' _ _ _ _ _ _ _ _ _ _ _ _ _ _ _ _ _ _ _ _ _ _ _ _ _ _ _ _ _ _ _ _ _ _ _ _ _ _ _ _ _ _ _ _ _ _ _ _ _ _ _ _ _ _ _ _ _ _ _ _ _ _ _ _ _ _ _ _ _ _ _ _ _ _ _ _ _ _ _ _ _ _ _ _ _ _ _ _ _ _ _ _ _ _ _ _ _ _ _ _ _ _ _ _ _ _ _ _ _ _ _ _ _ _ _ _ _ _ _ _ _ _ _ _ _ _ _ _ _ _ _ _ _ _ _ _ _ _ _ _ _ _ _ _ _ _ _ _ _ _ _ _ _ _ _ _ _ _ _ _ _ _ _ _ _ _ _ _ _ _ _ _ _ _ _ _ _ _ _ _ _ _ _ _ _ _ _ _ _ _ _ _ _ _ _ _ _ _ _ _ _ _ _ _ _ _ _ _ _ _ _ _ _ _ _ _ _ _ _ _ _ _ _ _ _ _ _ _ _ _ _ _ _ _ _ _ _ _ _ _ _ _ _ _ _ _ _ _ _ _ _ _ _ _ _ _ _ _ _ _ _ _ _ _ _ _ _ _ _ _ _ _ _ _ _ _ _ _ _ _ _ _ _ _ _ _ _ _ _ _ _ _ _ _ _ _ (HGD.out _ xv' _ hnE HX.out q1 ⟨[d], ?_, ?_⟩ (q4.mono (fun i _ e => e.elim .inl (fun e => (by simp [Value.ownBlock] at e)))))
          · have e0 : pieceB bs P (P + m) = (bs.drop P).take m := by unfold pieceB; rw [show P + m - P = m by omega]
            rw [e0]; exact q2
          · have e0 : pieceB bs P (P + m) = (bs.drop P).take m := by unfold pieceB; rw [show P + m - P = m by omega]
            rw [e0]; exact q3
        · rename_i hnown
          by_cases h2 : h.prof = 4096
          · have s1 : (h.prof == 48862) = false := by simp [h2]
            have s2 : (h.prof == 4096) = true := by simp [h2]
            have hd : decide (h.prof = 4096) = true := by simp [h2]
            rw [hd] at hx
            have hx' := hide hx
            clear hx
            go_upto_region 39 with fail
            refine part_use (un_p39 (two := true) (p := p) (B := B) (h := h) (ys := ys) w _ _ _ _ _ _ _ _ _ _ _ _ _ _ _ _ _ _ _ _ _ _ _ _ _ _ _ _ _ _ _ _ _ _ _ _ _ _ _ _ _ _ _ _ _ _ _ _ _ _ _ _ _ _ _ _ _ _ _ _ _ _ _ _ _ _ _ _ _ _ _ _ _ _ _ _ _ _ _ _ _ _ _ _ _ _ _ _ _ _ _ _ _ _ _ _ _ _ _ _ _ _ _ _ _ _ _ _ _ _ _ _ _ _ _ _ _ _ _ _ _ _ _ _ _ _ _ _ _ _ _ _ _ _ _ _ _ _ _ _ _ _ _ _ _ _ _ _ _ _ _ _ _ _ _ _ _ _ _ _ _ _ _ _ _ _ _ _ _ _ _ _ _ _ _ _ _ _ _ _ _ _ _ _ _ _ _ _ _ _ _ _ _ _ _ _ _ _ _ _ _ _ _ _ _ _ _ _ _ _ _ _ _ _ _ _ _ _ _ _ _ _ _ _ _ _ _ _ _ _ _ _ _ _ _ _ _ _ _ _ _ _ _ _ _ _ _ _ _ _ _ _ _ _ _ _ _ _ _ _ _ _ _ _ _ _ _ _ _ _ _ _ _ _ _ _ _ _ _ _ _ _ _ _ _ _ _ _ _ _ _ _ _ ?_ HR.out HI.out hPE hnE hnm hn0 h2 hx'.out c1 HG.out hgB hBw HPG.out) rfl rfl (by assumption)
            intro w' xv u2 u3 u4 u5 u6 u8 u9 u10 u11 u13 u14 u15 u16 u17 u18 u19 u20 u21 u22 u23 u24 u25 u26 u27 u28 u29 u30 u31 u32 u33 u34 u35 u36 u37 u38 u39 u40 u41 u42 u43 u44 u45 u46 u47 u48 u49 u50 u51 u52 u53 u54 u55 u56 u57 u58 u59 u60 u61 u62 u63 u64 u65 u66 u67 u68 u69 u70 u71 u72 u73 u74 u75 u76 u77 u78 u79 u80 u81 u82 u83 u84 u85 u86 u87 u88 u89 u90 u91 u92 u93 u94 u95 u96 u97 u98 u99 u100 u101 u102 u103 u104 u105 u106 u107 u108 u109 u110 u111 u112 u113 u114 u115 u116 u117 u118 u119 u120 u121 u122 u123 u124 u125 u126 u127 u128 u129 u130 u131 u132 u133 u134 u135 u136 u137 u138 u139 u140 u141 u142 u143 u144 u145 u146 u147 u148 u149 u150 u151 u152 u153 u154 u155 u156 u157 u158 u159 u160 u161 u162 u163 u164 u165 u166 u167 u168 u169 u170 u171 u172 u173 u174 u175 u176 u177 u178 u179 u180 u181 u182 u183 u184 u185 u186 u187 u188 u189 u190 u191 u192 u193 u194 u195 u196 u197 u198 u199 u200 u201 u202 u203 u204 u205 u206 u207 u208 u209 u210 u211 u212 u213 u214 u215 u216 u217 u218 u219 u220 u221 u222 u223 u224 u225 u226 u227 u228 u229 u230 u231 u232 u233 u234 u235 u236 u237 u238 u239 u240 u241 u242 u243 u244 u245 u246 u247 u248 u249 u250 u251 u252 u253 u254 u255 u256 u257 u258 u259 u260 u261 u262 u263 u264 u265 u266 u267 u268 u269 u270 u271 u272 u273 u274 u275 u276 u277 u278 u279 u280 u281 u282 u283 u284 u285 u286 u287 u288 u289 u290 u291 u292 u293 u294 u295 u296 q1 q2 q3
            exact HKK.out _ _ (un_p63 w' _ _ _ _ _ _ _ _ _ _ _ _ _ _ _ _ _ _ _ _ _ _ _ _ _ _ _ _ _ _ _ _ _ _ _ _ _ _ _ _ _ _ _ _ _ _ _ _ _ _ _ _ _ _ _ _ _ _ _ _ _ _ _ _ _ _ _ _ _ _ _ _ _ _ _ _ _ _ _ _ _ _ _ _ _ _ _ _ _ _ _ _ _ _ _ _ _ _ _ _ _ _ _ _ _ _ _ _ _ _ _ _ _ _ _ _ _ _ _ _ _ _ _ _ _ _ _ _ _ _ _ _ _ _ _ _ _ _ _ _ _ _ _ _ _ _ _ _ _ _ _ _ _ _ _ _ _ _ _ _ _ _ _ _ _ _ _ _ _ _ _ _ _ _ _ _ _ _ _ _ _ _ _ _ _ _ _ _ _ _ _ _ _ _ _ _ _ _ _ _ _ _ _ _ _ _ _ _ _ _ _ _ _ _ _ _ _ _ _ _ _ _ _ _ _ _ _ _ _ _ _ _ _ _ _ _ _ _ _ _ _ _ _ _ _ _ _ _ _ _ _ _ _ _ _ _ _ _ _ _ _ _ _ _ _ _ _ _ _ _ _ _ _ _ _ _ _ _ _ _ _ _ _ _ _ _ _ _ _ _ _ _ _ _ _ _ (HGD.out _ xv _ hnE HX.out q1 q2 q3))
          · have h3 : h.prof = 48862 := by
              by_cases q : h.prof = 48862
              · exact q
              · exact absurd ⟨q, h2⟩ hnown
            have s1 : (h.prof == 48862) = true := by simp [h3]
            have hd : decide (h.prof = 4096) = false := by simp [h2]
            rw [hd] at hx
            have hx' := hide hx
            clear hx
            go_upto_region 39 with fail
            refine part_use (un_p39 (two := false) (p := p) (B := B) (h := h) (ys := ys) w _ _ _ _ _ _ _ _ _ _ _ _ _ _ _ _ _ _ _ _ _ _ _ _ _ _ _ _ _ _ _ _ _ _ _ _ _ _ _ _ _ _ _ _ _ _ _ _ _ _ _ _ _ _ _ _ _ _ _ _ _ _ _ _ _ _ _ _ _ _ _ _ _ _ _ _ _ _ _ _ _ _ _ _ _ _ _ _ _ _ _ _ _ _ _ _ _ _ _ _ _ _ _ _ _ _ _ _ _ _ _ _ _ _ _ _ _ _ _ _ _ _ _ _ _ _ _ _ _ _ _ _ _ _ _ _ _ _ _ _ _ _ _ _ _ _ _ _ _ _ _ _ _ _ _ _ _ _ _ _ _ _ _ _ _ _ _ _ _ _ _ _ _ _ _ _ _ _ _ _ _ _ _ _ _ _ _ _ _ _ _ _ _ _ _ _ _ _ _ _ _ _ _ _ _ _ _ _ _ _ _ _ _ _ _ _ _ _ _ _ _ _ _ _ _ _ _ _ _ _ _ _ _ _ _ _ _ _ _ _ _ _ _ _ _ _ _ _ _ _ _ _ _ _ _ _ _ _ _ _ _ _ _ _ _ _ _ _ _ _ _ _ _ _ _ _ _ _ _ _ _ _ _ _ _ _ _ _ _ _ _ _ _ ?_ HR.out HI.out hPE hnE hnm hn0 h3 hx'.out c1 HG.out hgB hBw HPG.out) rfl rfl (by assumption)
            intro w' xv u2 u3 u4 u5 u6 u8 u9 u10 u11 u13 u14 u15 u16 u17 u18 u19 u20 u21 u22 u23 u24 u25 u26 u27 u28 u29 u30 u31 u32 u33 u34 u35 u36 u37 u38 u39 u40 u41 u42 u43 u44 u45 u46 u47 u48 u49 u50 u51 u52 u53 u54 u55 u56 u57 u58 u59 u60 u61 u62 u63 u64 u65 u66 u67 u68 u69 u70 u71 u72 u73 u74 u75 u76 u77 u78 u79 u80 u81 u82 u83 u84 u85 u86 u87 u88 u89 u90 u91 u92 u93 u94 u95 u96 u97 u98 u99 u100 u101 u102 u103 u104 u105 u106 u107 u108 u109 u110 u111 u112 u113 u114 u115 u116 u117 u118 u119 u120 u121 u122 u123 u124 u125 u126 u127 u128 u129 u130 u131 u132 u133 u134 u135 u136 u137 u138 u139 u140 u141 u142 u143 u144 u145 u146 u147 u148 u149 u150 u151 u152 u153 u154 u155 u156 u157 u158 u159 u160 u161 u162 u163 u164 u165 u166 u167 u168 u169 u170 u171 u172 u173 u174 u175 u176 u177 u178 u179 u180 u181 u182 u183 u184 u185 u186 u187 u188 u189 u190 u191 u192 u193 u194 u195 u196 u197 u198 u199 u200 u201 u202 u203 u204 u205 u206 u207 u208 u209 u210 u211 u212 u213 u214 u215 u216 u217 u218 u219 u220 u221 u222 u223 u224 u225 u226 u227 u228 u229 u230 u231 u232 u233 u234 u235 u236 u237 u238 u239 u240 u241 u242 u243 u244 u245 u246 u247 u248 u249 u250 u251 u252 u253 u254 u255 u256 u257 u258 u259 u260 u261 u262 u263 u264 u265 u266 u267 u268 u269 u270 u271 u272 u273 u274 u275 u276 u277 u278 u279 u280 u281 u282 u283 u284 u285 u286 u287 u288 u289 u290 u291 u292 u293 u294 u295 u296 q1 q2 q3
            exact HKK.out _ _ (un_p63 w' _ _ _ _ _ _ _ _ _ _ _ _ _ _ _ _ _ _ _ _ _ _ _ _ _ _ _ _ _ _ _ _ _ _ _ _ _ _ _ _ _ _ _ _ _ _ _ _ _ _ _ _ _ _ _ _ _ _ _ _ _ _ _ _ _ _ _ _ _ _ _ _ _ _ _ _ _ _ _ _ _ _ _ _ _ _ _ _ _ _ _ _ _ _ _ _ _ _ _ _ _ _ _ _ _ _ _ _ _ _ _ _ _ _ _ _ _ _ _ _ _ _ _ _ _ _ _ _ _ _ _ _ _ _ _ _ _ _ _ _ _ _ _ _ _ _ _ _ _ _ _ _ _ _ _ _ _ _ _ _ _ _ _ _ _ _ _ _ _ _ _ _ _ _ _ _ _ _ _ _ _ _ _ _ _ _ _ _ _ _ _ _ _ _ _ _ _ _ _ _ _ _ _ _ _ _ _ _ _ _ _ _ _ _ _ _ _ _ _ _ _ _ _ _ _ _ _ _ _ _ _ _ _ _ _ _ _ _ _ _ _ _ _ _ _ _ _ _ _ _ _ _ _ _ _ _ _ _ _ _ _ _ _ _ _ _ _ _ _ _ _ _ _ _ _ _ _ _ _ _ _ _ _ _ _ _ _ _ _ _ _ _ _ _ _ _ (HGD.out _ xv _ hnE HX.out q1 q2 q3))
end Go.Proofs.YtdmnflngafbobaaDoor
