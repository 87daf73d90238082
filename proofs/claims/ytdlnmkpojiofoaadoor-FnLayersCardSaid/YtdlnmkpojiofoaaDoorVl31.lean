/-
  The law FnLayers: the rates, and one layer that it makes. Conditions: those that stand in each theorem.
-/
import Derived.Test.YtdlnmkpojiofoaaDoorVl30
namespace Go.Proofs.YtdlnmkpojiofoaaDoor
open Go.RowKit
set_option linter.unusedVariables false
set_option linter.unusedSimpArgs false
set_option maxRecDepth 100000

/-- The rates that the law makes of the numbers given. -/
def ratesOf : Nat → List Int → List Nat
  | _, [] => []
  | i, z :: zs => ((z / 256).toNat + i) :: ratesOf (i + 1) zs
theorem ratesOf_len : ∀ (zs : List Int) (i : Nat), (ratesOf i zs).length = zs.length
  | [], _ => rfl
  | z :: zs, i => by rw [ratesOf, List.length_cons, List.length_cons, ratesOf_len zs]
theorem ratesOf_get : ∀ (zs : List Int) (i j : Nat) (z : Int), zs[j]? = some z → (ratesOf i zs)[j]? = some ((z / 256).toNat + (i + j))
  | [], _, _, _, h => by simp at h
  | y :: zs, i, 0, z, h => by simp at h; subst h; simp [ratesOf]
  | y :: zs, i, j + 1, z, h => by
    rw [ratesOf, List.getElem?_cons_succ, ratesOf_get zs (i + 1) j z (by simpa using h)]
    congr 1
    omega
theorem ratesOf_lt {zs : List Int} (hz : ∀ z ∈ zs, 0 ≤ z ∧ z < 4294967296) (hl : zs.length ≤ 4) : ∀ r ∈ ratesOf 0 zs, r < 268435456 := by
  intro r hr
  obtain ⟨j, hj⟩ := List.getElem?_of_mem hr
  have hjl := (List.getElem?_eq_some_iff.1 hj).1
  rw [ratesOf_len] at hjl
  have hz1 : zs[j]? = some zs[j] := List.getElem?_eq_getElem hjl
  rw [ratesOf_get zs 0 j _ hz1] at hj
  injection hj with hj
  have := hz _ (List.getElem_mem hjl)
  omega
theorem I64_snoc (l : List Nat) (x : Nat) : I64 (l ++ [x]) = I64 l ++ [Value.int .i64 (x : Int)] := by simp [I64]

set_option maxHeartbeats 6400000 in
theorem fl_p12 {P : Pv} {zs : List Int} {p : Nat → Prop} {n gl B m s k c' : Nat} {v : Value} {A' : Option Addr} {ds : List Value} {sz : Bool} {Q : Exit → Act → World → Prop} (w : World) (u5 u6 u7 u8 u9 u10 u14 u15 u16 u17 u18 u19 u20 u21 u22 u23 u24 u25 u26 u27 u28 u29 u30 u31 u32 u33 u34 u35 u36 u37 u38 u39 u40 u41 u42 u43 u44 u45 u46 u47 u48 u49 u50 u51 u52 u53 u54 u55 u56 u57 u58 u59 u60 u61 u62 u63 u64 u65 u66 u69 u70 u73 u74 u75 u76 u77 u78 u79 u80 u81 u82 u83 u84 u85 u86 u87 u88 u89 u90 u91 u92 u93 u94 u95 u96 u97 u98 u99 u100 u101 u102 u103 u104 u105 u106 u107 u108 u109 u110 u111 u112 u113 u114 u115 u116 u117 u118 u119 u120 u121 u122 u123 u124 u125 u126 u127 u128 u129 u130 u131 u132 u133 u134 u135 u136 u137 u138 u139 u140 u141 u142 u143 u144 u145 u146 u147 u148 u149 u150 u151 u152 u153 u154 u155 u156 u157 u158 u159 u160 u161 u162 u163 u164 u165 u166 u167 u168 u169 u170 u171 u172 u173 u174 u175 u176 u177 u178 u179 u180 u181 u182 u183 u184 u185 u186 u187 u188 u189 u190 u191 u192 u193 u194 u195 u196 u197 u198 u199 u200 u201 u202 u203 u204 u205 u206 u207 u208 u209 u210 u211 u212 u213 u214 u215 u216 u217 u218 u219 u220 u221 u222 u223 u224 u225 u226 u227 u228 u229 u230 u231 u232 u233 u234 u235 u236 u237 u238 u239 u240 u241 u242 : Value)
    (hP : P.Ok) (hsz : P.sized = sz) (hrs : P.rs = ratesOf 0 zs) (hz : ∀ z ∈ zs, 0 ≤ z ∧ z < 4294967296) (hv : Rd w p 1 v n (U32 zs)) (hp : ∀ q, p q → q < gl)
    (hb : Blk w gl 44 #[.int .i64 (P.st : Nat), .int .i64 (P.S : Nat), .slice A' m c', .bool sz]) (hlo : LO w B 47 P.lc P.rs (.slice A' m c') m ds) (hgB : gl < B) (hBw : B ≤ w.heap.size) (hm : m < P.L) (hs : s = m / P.K) (hk : k = m % P.K)
    (hQ : ∀ (w' : World) (v14 v15 v16 v75 v76 v77 v78 v79 v80 v81 v82 v83 v84 v85 v86 v87 v88 v89 v90 v91 v92 v93 v94 v95 v96 v97 v98 v99 v100 v101 v102 v103 v104 v105 v106 v107 v108 v109 v110 v111 v112 v113 v114 : Value) (A2 : Option Addr) (c2 : Nat) (ds2 : List Value), Blk w' gl 44 #[.int .i64 (P.st : Nat), .int .i64 (P.S : Nat), .slice A2 (m + 1) c2, .bool sz] → LO w' B 47 P.lc P.rs (.slice A2 (m + 1) c2) (m + 1) ds2 → Keep w w' (fun q => q = gl ∨ B ≤ q) → Q .normal ⟨List.toArray (.int .i64 (P.S : Nat) :: .int .i64 (P.K : Nat) :: v :: .bool sz :: .int .i64 (P.size : Nat) :: u5 :: u6 :: u7 :: u8 :: u9 :: u10 :: .pointer (some ⟨gl, 0, none⟩) :: .int .i64 (s : Int) :: .int .i64 (k : Int) :: v14 :: v15 :: v16 :: u17 :: u18 :: u19 :: u20 :: u21 :: u22 :: u23 :: u24 :: u25 :: u26 :: u27 :: u28 :: u29 :: u30 :: u31 :: u32 :: u33 :: u34 :: u35 :: u36 :: u37 :: u38 :: u39 :: u40 :: u41 :: u42 :: u43 :: u44 :: u45 :: u46 :: u47 :: u48 :: u49 :: u50 :: u51 :: u52 :: u53 :: u54 :: u55 :: u56 :: u57 :: u58 :: u59 :: u60 :: u61 :: u62 :: u63 :: u64 :: u65 :: u66 :: .int .i64 (P.S : Nat) :: .int .i64 (s : Int) :: u69 :: u70 :: .int .i64 (P.K : Nat) :: .int .i64 (k : Int) :: u73 :: u74 :: v75 :: v76 :: v77 :: v78 :: v79 :: v80 :: v81 :: v82 :: v83 :: v84 :: v85 :: v86 :: v87 :: v88 :: v89 :: v90 :: v91 :: v92 :: v93 :: v94 :: v95 :: v96 :: v97 :: v98 :: v99 :: v100 :: v101 :: v102 :: v103 :: v104 :: v105 :: v106 :: v107 :: v108 :: v109 :: v110 :: v111 :: v112 :: v113 :: v114 :: u115 :: u116 :: u117 :: u118 :: u119 :: u120 :: u121 :: u122 :: u123 :: u124 :: u125 :: u126 :: u127 :: u128 :: u129 :: u130 :: u131 :: u132 :: u133 :: u134 :: u135 :: u136 :: u137 :: u138 :: u139 :: u140 :: u141 :: u142 :: u143 :: u144 :: u145 :: u146 :: u147 :: u148 :: u149 :: u150 :: u151 :: u152 :: u153 :: u154 :: u155 :: u156 :: u157 :: u158 :: u159 :: u160 :: u161 :: u162 :: u163 :: u164 :: u165 :: u166 :: u167 :: u168 :: u169 :: u170 :: u171 :: u172 :: u173 :: u174 :: u175 :: u176 :: u177 :: u178 :: u179 :: u180 :: u181 :: u182 :: u183 :: u184 :: u185 :: u186 :: u187 :: u188 :: u189 :: u190 :: u191 :: u192 :: u193 :: u194 :: u195 :: u196 :: u197 :: u198 :: u199 :: u200 :: u201 :: u202 :: u203 :: u204 :: u205 :: u206 :: u207 :: u208 :: u209 :: u210 :: u211 :: u212 :: u213 :: u214 :: u215 :: u216 :: u217 :: u218 :: u219 :: u220 :: u221 :: u222 :: u223 :: u224 :: u225 :: u226 :: u227 :: u228 :: u229 :: u230 :: u231 :: u232 :: u233 :: u234 :: u235 :: u236 :: u237 :: u238 :: u239 :: u240 :: u241 :: u242 :: []), []⟩ w') :
    Part Tryd.prog Tryd.f6 12 Q ⟨List.toArray (.int .i64 (P.S : Nat) :: .int .i64 (P.K : Nat) :: v :: .bool sz :: .int .i64 (P.size : Nat) :: u5 :: u6 :: u7 :: u8 :: u9 :: u10 :: .pointer (some ⟨gl, 0, none⟩) :: .int .i64 (s : Int) :: .int .i64 (k : Int) :: u14 :: u15 :: u16 :: u17 :: u18 :: u19 :: u20 :: u21 :: u22 :: u23 :: u24 :: u25 :: u26 :: u27 :: u28 :: u29 :: u30 :: u31 :: u32 :: u33 :: u34 :: u35 :: u36 :: u37 :: u38 :: u39 :: u40 :: u41 :: u42 :: u43 :: u44 :: u45 :: u46 :: u47 :: u48 :: u49 :: u50 :: u51 :: u52 :: u53 :: u54 :: u55 :: u56 :: u57 :: u58 :: u59 :: u60 :: u61 :: u62 :: u63 :: u64 :: u65 :: u66 :: .int .i64 (P.S : Nat) :: .int .i64 (s : Int) :: u69 :: u70 :: .int .i64 (P.K : Nat) :: .int .i64 (k : Int) :: u73 :: u74 :: u75 :: u76 :: u77 :: u78 :: u79 :: u80 :: u81 :: u82 :: u83 :: u84 :: u85 :: u86 :: u87 :: u88 :: u89 :: u90 :: u91 :: u92 :: u93 :: u94 :: u95 :: u96 :: u97 :: u98 :: u99 :: u100 :: u101 :: u102 :: u103 :: u104 :: u105 :: u106 :: u107 :: u108 :: u109 :: u110 :: u111 :: u112 :: u113 :: u114 :: u115 :: u116 :: u117 :: u118 :: u119 :: u120 :: u121 :: u122 :: u123 :: u124 :: u125 :: u126 :: u127 :: u128 :: u129 :: u130 :: u131 :: u132 :: u133 :: u134 :: u135 :: u136 :: u137 :: u138 :: u139 :: u140 :: u141 :: u142 :: u143 :: u144 :: u145 :: u146 :: u147 :: u148 :: u149 :: u150 :: u151 :: u152 :: u153 :: u154 :: u155 :: u156 :: u157 :: u158 :: u159 :: u160 :: u161 :: u162 :: u163 :: u164 :: u165 :: u166 :: u167 :: u168 :: u169 :: u170 :: u171 :: u172 :: u173 :: u174 :: u175 :: u176 :: u177 :: u178 :: u179 :: u180 :: u181 :: u182 :: u183 :: u184 :: u185 :: u186 :: u187 :: u188 :: u189 :: u190 :: u191 :: u192 :: u193 :: u194 :: u195 :: u196 :: u197 :: u198 :: u199 :: u200 :: u201 :: u202 :: u203 :: u204 :: u205 :: u206 :: u207 :: u208 :: u209 :: u210 :: u211 :: u212 :: u213 :: u214 :: u215 :: u216 :: u217 :: u218 :: u219 :: u220 :: u221 :: u222 :: u223 :: u224 :: u225 :: u226 :: u227 :: u228 :: u229 :: u230 :: u231 :: u232 :: u233 :: u234 :: u235 :: u236 :: u237 :: u238 :: u239 :: u240 :: u241 :: u242 :: []), []⟩ w := by
  have HQ := hide hQ
  have hL16 := hP.L16
  have ht1 := hP.t1
  have ht4 := hP.t4
  have hz1 := hP.z1
  have hz2 := hP.z2
  have hkK := mod_lt hP m
  have hsS := div_lt hP hm
  rw [← hk] at hkK
  rw [← hs] at hsS
  have hS4 := hP.s4
  have hK4 := hP.k4
  have hzl : zs.length = n := by have := hv.len; rwa [U32, List.length_map] at this
  have hrl : P.rs.length = n := by rw [hrs, ratesOf_len, hzl]
  have HLC := hide (show ∀ d, P.lc m d = [.int .i64 (s : Int), .int .i64 (k : Int), d, .int .i64 (P.W m : Nat), .int .i64 (P.H m : Nat), .int .i64 (P.F : Nat)] by intro d; rw [hs, hk]; rfl)
  have HWK := hide (show P.W m = (if P.sized then P.size + k else 0) ∧ P.H m = (if P.sized then P.size + s else 0) ∧ P.F = (if P.sized then 1 + P.size % 255 else 0) from ⟨by rw [hk]; rfl, by rw [hs]; rfl, rfl⟩)
  obtain ⟨bv, ov, cv, rfl, hvc, hvm, hpb, hvl, hvcell⟩ := hv.lit (by omega)
  have hbvg := hp bv hpb
  have HVC := hide hvcell
  have HB := hide hb
  have HLO := hide hlo
  have HZ := hide hz
  have HRS := hide hrs
  have HP := hide hP
  have hbl := hb.lt
  have HS := hide hs
  have HSZ := hide hsz
  have HK := hide hk
  clear hQ hv hp hb hlo hvcell hz hrs hP hs hk hsz
  refine part_open (fun c0 hc K hK => ?_)
  conv at hc => rhs; whnf
  subst hc
  dsimp only [xOf, yOf] at hK ⊢
  go_upto_region 13 with fail
  generalize hw2 : World.alloc w _ = w2
  obtain ⟨gx, hgx⟩ : ∃ gx, gx = w.heap.size := ⟨_, rfl⟩
  rw [← hgx]
  have BX := hide (show Blk w2 gx 47 #[.int .i64 (s : Int), .int .i64 (k : Int), .slice none 0 0, .int .i64 0, .int .i64 0, .int .i64 0] by subst hw2 hgx; exact Blk.new w _ _)
  have K2 := hide (show Keep w w2 Nul by subst hw2; exact (Keep.refl w Nul).alloc _)
  have hz2' : w2.heap.size = w.heap.size + 1 := by subst hw2; exact World.size_alloc _ _
  obtain ⟨B2, hB2⟩ : ∃ B2, B2 = w2.heap.size := ⟨_, rfl⟩
  have mgx : gx < B2 := by omega
  have hB2w : B2 ≤ w2.heap.size := by omega
  have mwx : w.heap.size ≤ gx := by omega
  have mB : B ≤ B2 := by omega
  clear hw2 hgx hB2
  go_wp2_with fail
  go_loopw [80] (fun s80 wr => ∃ (j : Nat) (A : Option Addr) (c : Nat), j ≤ n ∧ s80 = .int .i64 (j : Int) ∧ Own wr B2 3 1 (.slice A j c) j (I64 (P.rs.take j)) ∧ Blk wr gx 47 #[.int .i64 (s : Int), .int .i64 (k : Int), .slice A j c, .int .i64 0, .int .i64 0, .int .i64 0] ∧ Keep w2 wr (fun q => q = gx ∨ B2 ≤ q)) (fun s80 _ => n - (intOf s80).toNat)
  case atStart => exact ⟨0, none, 0, by omega, rfl, Own.nil_ _ _ _ _, BX.out, Keep.refl _ _⟩
  case round =>
    obtain ⟨j, A, c, hj, rfl, ho, hbx, hkr⟩ := hrel
    have HO := hide ho
    have HBX := hide hbx
    have HKR := hide hkr
    have hKw := (K2.out.nul Nul).trans hkr (fun i hi e => by rcases e with e | e <;> omega)
    have HKW := hide hKw
    have hbxl := hbx.lt
    have x2 := hbx.cell 2 (v := .slice A j c) rfl
    have fx := hbx.free 2
    have HNE := hide (ho.ne_ hbx (by decide))
    have hzr := hkr.size
    clear ho hbx hkr
    by_cases hlt : j < n
    · have kl : (j : Int) < (n : Int) := by omega
      have hzj : zs[j]? = some zs[j] := List.getElem?_eq_getElem (by omega)
      have hzb := HZ.out _ (List.getElem_mem (by omega : j < zs.length))
      have hrj := ratesOf_get zs 0 j _ hzj
      rw [← HRS.out] at hrj
      have hcv := hKw.cell (fun e => e) (HVC.out j (.int .u32 zs[j]) (by rw [U32, List.getElem?_map, hzj]; rfl))
      have hvl2 : bv < wr.heap.size := Nat.lt_of_lt_of_le hvl hKw.size
      generalize zs[j] = z at *
      have e1 : IntKind.i64.wrap (z / 256) = z / 256 := by rw [IntKind.wrap_i64]; omega
      have e2 : IntKind.i64.wrap (z / 256 + (j : Int)) = z / 256 + (j : Int) := by rw [IntKind.wrap_i64]; omega
      have htk : P.rs.take (j + 1) = P.rs.take j ++ [(z / 256).toNat + (0 + j)] := by
        obtain ⟨h1, h2⟩ := List.getElem?_eq_some_iff.1 hrj
        rw [List.take_succ_eq_append_getElem h1, h2]
      have hti : I64 (P.rs.take (j + 1)) = I64 (P.rs.take j) ++ [.int .i64 (z / 256 + (j : Int))] := by
        rw [htk, I64_snoc, show (((z / 256).toNat + (0 + j) : Nat) : Int) = z / 256 + (j : Int) by omega]
      have HTI := hide hti
      clear hti htk hrj hzj hKw
      go_wp2_with (at_builtin; refine wpList_app etI rfl _ _ rfl (HO.out.alloc (.cells #[.int .i64 (z / 256 + (j : Int))] 3)) rfl (src_one (w := wr) (cs := #[.int .i64 (z / 256 + (j : Int))]) Tryd.underlying45 rfl rfl (by simp [Value.oneCell'])) rfl (by simp only [maxLen]; omega) (by omega) (by simp only [World.size_alloc]; omega) ?_; intro v5 w5 o5 k5 b5 z5 _; have kx5 := (((Keep.refl wr Nul).alloc (.cells #[.int .i64 (z / 256 + (j : Int))] 3)).nul (fun q => (Value.slice A j c).ownBlock = some q)).trans k5 (fun _ _ e => e); have bx5 := HBX.out.keep kx5 HNE.out; have f5 := bx5.free 2; have g5 := bx5.cell 2 (v := .slice A j c) rfl; have l5 := bx5.lt; obtain ⟨A5, c5, rfl⟩ := o5.rd.shape)
      have kst : Keep w5 (w5.setCell ⟨gx, 2, none⟩ (.slice A5 (j + 1) c5)) (· = gx) := Keep.set1 _ _ _ _
      have ho6 := o5.keep kst (fun q hq e => by have e' : q = gx := e; subst e'; exact o5.ne_ bx5 (by decide) hq)
      have HO6 := hide ho6
      have HBX6 := hide (bx5.set_ 2 (.slice A5 (j + 1) c5))
      have HKR6 := hide ((HKR.out.trans kx5 (fun q _ e => .inr (HO.out.at_ q e).1)).trans kst (fun _ _ e => .inl e))
      clear kst ho6 kx5 bx5 o5 k5 b5 z5
      go_roundw
      case rel => exact ⟨j + 1, A5, c5, by omega, by go_num, by rw [HTI.out]; exact HO6.out, HBX6.out, HKR6.out⟩
      case measure => simp [intOf]; omega
    · obtain rfl : j = n := by omega
      have htk : P.rs.take j = P.rs := List.take_of_length_le (by omega)
      have HO7 := hide (show Own wr B2 3 1 (.slice A j c) j (I64 P.rs) by have h := HO.out; rw [htk] at h; exact h)
      have hwk := HWK.out
      rw [HSZ.out] at hwk
      have x3 := HBX.out.cell 3 (v := .int .i64 0) rfl
      have x4 := HBX.out.cell 4 (v := .int .i64 0) rfl
      have x5 := HBX.out.cell 5 (v := .int .i64 0) rfl
      have fx := HBX.out.free
      have fx3 := fx 3
      have fx4 := fx 4
      have fx5 := fx 5
      cases sz with
      | true =>
        have e3 : IntKind.i64.wrap ((P.size : Int) + (k : Int)) = (P.size : Int) + (k : Int) := by rw [IntKind.wrap_i64]; omega
        have e4 : IntKind.i64.wrap ((P.size : Int) + (s : Int)) = (P.size : Int) + (s : Int) := by rw [IntKind.wrap_i64]; omega
        go_upto_region 20 with fail
        generalize hw7 : World.setCell _ _ _ = w7
        obtain ⟨W, hW⟩ : ∃ W, P.W m = W := ⟨_, rfl⟩
        obtain ⟨H, hH⟩ : ∃ H, P.H m = H := ⟨_, rfl⟩
        obtain ⟨F, hF⟩ : ∃ F, P.F = F := ⟨_, rfl⟩
        rw [hW, hH, hF] at hwk
        simp only [if_true] at hwk
        have k7 : Keep wr w7 (· = gx) := by subst hw7; exact (((Keep.refl wr (· = gx)).setg 3 (fun _ => rfl) _).setg 4 (fun _ => rfl) _).setg 5 (fun _ => rfl) _
        have hx7 : Blk w7 gx 47 #[.int .i64 (s : Int), .int .i64 (k : Int), .slice A j c, .int .i64 (W : Int), .int .i64 (H : Int), .int .i64 (F : Int)] := by
          subst hw7
          have h := ((HBX.out.set_ 3 (.int .i64 (W : Int))).set_ 4 (.int .i64 (H : Int))).set_ 5 (.int .i64 (F : Int))
          have q3 : (W : Int) = (P.size : Int) + (k : Int) := by omega
          have q4 : (H : Int) = (P.size : Int) + (s : Int) := by omega
          have q5 : (F : Int) = 1 + (P.size : Int) % 255 := by omega
          rw [← q3, ← q4, ← q5]
          exact h
        clear hw7 hwk e3 e4
        clear x2 x3 x4 x5 fx fx3 fx4 fx5
        have HX7 := hide hx7
        have HO8 := hide (HO7.out.keep k7 (fun q hq e => by have e' : q = gx := e; subst e'; exact HO7.out.ne_ HBX.out (by decide) hq))
        have hk8 : Keep w w7 Nul := HKW.out.trans k7 (fun i hi e => by have e' : i = gx := e; omega)
        have HK8 := hide hk8
        have HB7 := hide (HB.out.keep hk8 (fun e => e))
        have HNE7 := hide (show ¬ (Value.slice A' m c').ownBlock = some gl from HLO.out.own.ne_ HB.out (by decide))
        have hz8 := hk8.size
        have y0 := hx7.cell 0 (v := .int .i64 (s : Int)) rfl
        have y1 := hx7.cell 1 (v := .int .i64 (k : Int)) rfl
        have y2 := hx7.cell 2 (v := .slice A j c) rfl
        have y3 := hx7.cell 3 (v := .int .i64 (W : Int)) rfl
        have y4 := hx7.cell 4 (v := .int .i64 (H : Int)) rfl
        have y5 := hx7.cell 5 (v := .int .i64 (F : Int)) rfl
        have hxl := hx7.lt
        have hbl7 := HB7.out.lt
        have b2 := HB7.out.cell 2 (v := .slice A' m c') rfl
        have hwa := World.size_alloc w7 (.cells #[.int .i64 (s : Int), .int .i64 (k : Int), .slice A j c, .int .i64 (W : Int), .int .i64 (H : Int), .int .i64 (F : Int)] 47)
        clear hx7 k7 hk8
        go_wp2_with (at_builtin; refine wpList_app etL rfl _ _ rfl ((HLO.out.keep0 HK8.out).own.alloc (.cells #[.int .i64 (s : Int), .int .i64 (k : Int), .slice A j c, .int .i64 (W : Int), .int .i64 (H : Int), .int .i64 (F : Int)] 47)) rfl (src_one (w := w7) (cs := #[.int .i64 (s : Int), .int .i64 (k : Int), .slice A j c, .int .i64 (W : Int), .int .i64 (H : Int), .int .i64 (F : Int)]) Tryd.underlying42 rfl rfl (by simp [Value.oneCell'])) rfl (by simp only [maxLen]; omega) (by omega) (by simp only [World.size_alloc]; omega) ?_; intro v5 w5 o5 k5 b5 z5 _; have B45 := (HB7.out.alloc (.cells #[.int .i64 (s : Int), .int .i64 (k : Int), .slice A j c, .int .i64 (W : Int), .int .i64 (H : Int), .int .i64 (F : Int)] 47)).keep k5 HNE7.out; have f10 := B45.free 2; have g10 := B45.cell 2 (v := .slice A' m c') rfl; have l5 := B45.lt; obtain ⟨A5, c5, rfl⟩ := o5.rd.shape)
        have hLO := HLO.out.more (d := .slice A j c) (wa := w7.alloc (.cells #[.int .i64 (s : Int), .int .i64 (k : Int), .slice A j c, .int .i64 (W : Int), .int .i64 (H : Int), .int .i64 (F : Int)] 47)) (HK8.out.alloc _) k5 (by rw [HLC.out, hW, hH, hF]; exact o5) (fun q hq => by
          rcases b5 with h | h
          · exact .inl (h ▸ hq)
          · rw [h] at hq
            injection hq with hq
            exact .inr (by omega))
          (by have h := ((HO8.out.alloc (.cells #[.int .i64 (s : Int), .int .i64 (k : Int), .slice A j c, .int .i64 (W : Int), .int .i64 (H : Int), .int .i64 (F : Int)] 47)).rdB).mono (q := fun q => w.heap.size ≤ q ∧ q < (w7.alloc (.cells #[.int .i64 (s : Int), .int .i64 (k : Int), .slice A j c, .int .i64 (W : Int), .int .i64 (H : Int), .int .i64 (F : Int)] 47)).heap.size) (fun q hq (h : B2 ≤ q) => ⟨by omega, hq⟩); rw [hrl]; exact h) hBw
        have kst : Keep w5 (w5.setCell ⟨gl, 2, none⟩ (.slice A5 (m + 1) c5)) (· = gl) := Keep.set1 _ _ _ _
        exact HQ.out _ _ _ _ _ _ _ _ _ _ _ _ _ _ _ _ _ _ _ _ _ _ _ _ _ _ _ _ _ _ _ _ _ _ _ _ _ _ _ _ _ _ _ _ A5 c5 _ (B45.set_ 2 (.slice A5 (m + 1) c5)) (hLO.keep kst (fun q _ e => by have : q = gl := e; omega)) (((((HK8.out.alloc (.cells #[.int .i64 (s : Int), .int .i64 (k : Int), .slice A j c, .int .i64 (W : Int), .int .i64 (H : Int), .int .i64 (F : Int)] 47)).nul (fun q => q = gl ∨ B ≤ q)).trans k5 (fun q _ e => .inr (HLO.out.own.at_ q e).1)).trans kst (fun _ _ e => .inl e)))
      | false =>
        go_upto_region 20 with fail
        obtain ⟨W, hW⟩ : ∃ W, P.W m = W := ⟨_, rfl⟩
        obtain ⟨H, hH⟩ : ∃ H, P.H m = H := ⟨_, rfl⟩
        obtain ⟨F, hF⟩ : ∃ F, P.F = F := ⟨_, rfl⟩
        rw [hW, hH, hF] at hwk
        simp only [Bool.false_eq_true, if_false] at hwk
        obtain ⟨w7, hw7⟩ : ∃ w7, w7 = wr := ⟨_, rfl⟩
        have k7 : Keep wr w7 (· = gx) := by rw [hw7]; exact Keep.refl _ _
        have hx7 : Blk w7 gx 47 #[.int .i64 (s : Int), .int .i64 (k : Int), .slice A j c, .int .i64 (W : Int), .int .i64 (H : Int), .int .i64 (F : Int)] := by rw [hw7, hwk.1, hwk.2.1, hwk.2.2]; exact HBX.out
        rw [← hw7]
        clear hw7 hwk
        clear x2 x3 x4 x5 fx fx3 fx4 fx5
        have HX7 := hide hx7
        have HO8 := hide (HO7.out.keep k7 (fun q hq e => by have e' : q = gx := e; subst e'; exact HO7.out.ne_ HBX.out (by decide) hq))
        have hk8 : Keep w w7 Nul := HKW.out.trans k7 (fun i hi e => by have e' : i = gx := e; omega)
        have HK8 := hide hk8
        have HB7 := hide (HB.out.keep hk8 (fun e => e))
        have HNE7 := hide (show ¬ (Value.slice A' m c').ownBlock = some gl from HLO.out.own.ne_ HB.out (by decide))
        have hz8 := hk8.size
        have y0 := hx7.cell 0 (v := .int .i64 (s : Int)) rfl
        have y1 := hx7.cell 1 (v := .int .i64 (k : Int)) rfl
        have y2 := hx7.cell 2 (v := .slice A j c) rfl
        have y3 := hx7.cell 3 (v := .int .i64 (W : Int)) rfl
        have y4 := hx7.cell 4 (v := .int .i64 (H : Int)) rfl
        have y5 := hx7.cell 5 (v := .int .i64 (F : Int)) rfl
        have hxl := hx7.lt
        have hbl7 := HB7.out.lt
        have b2 := HB7.out.cell 2 (v := .slice A' m c') rfl
        have hwa := World.size_alloc w7 (.cells #[.int .i64 (s : Int), .int .i64 (k : Int), .slice A j c, .int .i64 (W : Int), .int .i64 (H : Int), .int .i64 (F : Int)] 47)
        clear hx7 k7 hk8
        go_wp2_with (at_builtin; refine wpList_app etL rfl _ _ rfl ((HLO.out.keep0 HK8.out).own.alloc (.cells #[.int .i64 (s : Int), .int .i64 (k : Int), .slice A j c, .int .i64 (W : Int), .int .i64 (H : Int), .int .i64 (F : Int)] 47)) rfl (src_one (w := w7) (cs := #[.int .i64 (s : Int), .int .i64 (k : Int), .slice A j c, .int .i64 (W : Int), .int .i64 (H : Int), .int .i64 (F : Int)]) Tryd.underlying42 rfl rfl (by simp [Value.oneCell'])) rfl (by simp only [maxLen]; omega) (by omega) (by simp only [World.size_alloc]; omega) ?_; intro v5 w5 o5 k5 b5 z5 _; have B45 := (HB7.out.alloc (.cells #[.int .i64 (s : Int), .int .i64 (k : Int), .slice A j c, .int .i64 (W : Int), .int .i64 (H : Int), .int .i64 (F : Int)] 47)).keep k5 HNE7.out; have f10 := B45.free 2; have g10 := B45.cell 2 (v := .slice A' m c') rfl; have l5 := B45.lt; obtain ⟨A5, c5, rfl⟩ := o5.rd.shape)
        have hLO := HLO.out.more (d := .slice A j c) (wa := w7.alloc (.cells #[.int .i64 (s : Int), .int .i64 (k : Int), .slice A j c, .int .i64 (W : Int), .int .i64 (H : Int), .int .i64 (F : Int)] 47)) (HK8.out.alloc _) k5 (by rw [HLC.out, hW, hH, hF]; exact o5) (fun q hq => by
          rcases b5 with h | h
          · exact .inl (h ▸ hq)
          · rw [h] at hq
            injection hq with hq
            exact .inr (by omega))
          (by have h := ((HO8.out.alloc (.cells #[.int .i64 (s : Int), .int .i64 (k : Int), .slice A j c, .int .i64 (W : Int), .int .i64 (H : Int), .int .i64 (F : Int)] 47)).rdB).mono (q := fun q => w.heap.size ≤ q ∧ q < (w7.alloc (.cells #[.int .i64 (s : Int), .int .i64 (k : Int), .slice A j c, .int .i64 (W : Int), .int .i64 (H : Int), .int .i64 (F : Int)] 47)).heap.size) (fun q hq (h : B2 ≤ q) => ⟨by omega, hq⟩); rw [hrl]; exact h) hBw
        have kst : Keep w5 (w5.setCell ⟨gl, 2, none⟩ (.slice A5 (m + 1) c5)) (· = gl) := Keep.set1 _ _ _ _
        exact HQ.out _ _ _ _ _ _ _ _ _ _ _ _ _ _ _ _ _ _ _ _ _ _ _ _ _ _ _ _ _ _ _ _ _ _ _ _ _ _ _ _ _ _ _ _ A5 c5 _ (B45.set_ 2 (.slice A5 (m + 1) c5)) (hLO.keep kst (fun q _ e => by have : q = gl := e; omega)) (((((HK8.out.alloc (.cells #[.int .i64 (s : Int), .int .i64 (k : Int), .slice A j c, .int .i64 (W : Int), .int .i64 (H : Int), .int .i64 (F : Int)] 47)).nul (fun q => q = gl ∨ B ≤ q)).trans k5 (fun q _ e => .inr (HLO.out.own.at_ q e).1)).trans kst (fun _ _ e => .inl e)))
end Go.Proofs.YtdlnmkpojiofoaaDoor
