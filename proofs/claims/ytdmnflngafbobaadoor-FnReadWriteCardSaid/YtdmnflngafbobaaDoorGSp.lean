/-
  The reference's numbers of two and four bytes. Conditions: those that stand in each theorem.
-/
import Derived.Test.YtdmnflngafbobaaDoorGUn
import Derived.RegionTactic
import Derived.BigRegion
import Derived.Deep.RegionHeld3
import Derived.Test.YtdmnflngafbobaaDoorGUx
import Derived.Test.YtdmnflngafbobaaDoorGiven
import Derived.Test.YtdmnflngafbobaaDoorGPun
import Derived.Test.YtdmnflngafbobaaDoorLast
import Derived.Deep.DeepCutAuto
import Derived.Deep.QuietTactic
import Derived.BigQuiet
import Derived.Test.YtdmnflngafbobaaDoorFmh
namespace Go.Proofs.YtdmnflngafbobaaDoor
open Go.RowKit
set_option linter.unusedVariables false
set_option linter.unusedSimpArgs false
set_option maxRecDepth 20000

theorem su16 (b o n c : Nat) (x0 x1 : Int) (w : World) (hn : 2 ≤ n) (h0 : 0 ≤ x0 ∧ x0 < 256) (h1 : 0 ≤ x1 ∧ x1 < 256) (c0 : w.cell? ⟨b, o, none⟩ = some (.int .u8 x0)) (c1 : w.cell? ⟨b, o + 1, none⟩ = some (.int .u8 x1)) :
    Calls Tryd.prog 67 #[.slice (some ⟨b, o, none⟩) n c] w fun e w' => e = .returned (.int .u16 (x0 * 256 + x1)) ∧ w.drew = w' := by
  obtain ⟨a0, a1⟩ := h0
  obtain ⟨b0, b1⟩ := h1
  have n1 : (1 : Int) < (n : Int) := by omega
  have n0 : (0 : Int) < (n : Int) := by omega
  have e1 : bits .or .u16 (x0 * 256) x1 = x0 * 256 + x1 := or16 8 _ _ (by omega) (by omega) (by omega) (by omega) (by decide) (by omega)
  go_enter Tryd.func67, Tryd.ntmps67
  go_wp2
  go_region
  all_goals go_wp2
  all_goals go_ret
  all_goals exact ⟨rfl, rfl⟩

theorem su16k {w0 : World} (b o n c : Nat) (x0 x1 y : Int) (hy : x0 * 256 + x1 = y) (w : World) (k : Keep w0 w Nul) (hn : 2 ≤ n) (h0 : 0 ≤ x0 ∧ x0 < 256) (h1 : 0 ≤ x1 ∧ x1 < 256) (c0 : w0.cell? ⟨b, o, none⟩ = some (.int .u8 x0)) (c1 : w0.cell? ⟨b, o + 1, none⟩ = some (.int .u8 x1)) :
    Calls Tryd.prog 67 #[.slice (some ⟨b, o, none⟩) n c] w fun e w' => e = .returned (.int .u16 y) ∧ Keep w0 w' Nul := by
  subst hy
  refine (su16 b o n c x0 x1 w hn h0 h1 (k.cell (fun e => e) c0) (k.cell (fun e => e) c1)).mono ?_
  rintro e w' ⟨rfl, rfl⟩
  exact ⟨rfl, k.drew⟩

theorem su32 (b o n c : Nat) (x0 x1 x2 x3 : Int) (w : World) (hn : 4 ≤ n) (hc : n ≤ c) (h0 : 0 ≤ x0 ∧ x0 < 256) (h1 : 0 ≤ x1 ∧ x1 < 256) (h2 : 0 ≤ x2 ∧ x2 < 256) (h3 : 0 ≤ x3 ∧ x3 < 256)
    (c0 : w.cell? ⟨b, o, none⟩ = some (.int .u8 x0)) (c1 : w.cell? ⟨b, o + 1, none⟩ = some (.int .u8 x1)) (c2 : w.cell? ⟨b, o + 2, none⟩ = some (.int .u8 x2)) (c3 : w.cell? ⟨b, o + 3, none⟩ = some (.int .u8 x3)) :
    Calls Tryd.prog 68 #[.slice (some ⟨b, o, none⟩) n c] w fun e w' => e = .returned (.int .u32 ((x0 * 256 + x1) * 65536 + (x2 * 256 + x3))) ∧ Keep w w' Nul := by
  have H0 := hide h0
  have H1 := hide h1
  have H2 := hide h2
  have H3 := hide h3
  have C0 := hide c0
  have C1 := hide c1
  have C2 := hide c2
  have C3 := hide c3
  have n1 : (2 : Int) ≤ (n : Int) := by omega
  have n2 : ¬ c = 2 := by omega
  have e1 : bits .or .u32 ((x0 * 256 + x1) * 65536) (x2 * 256 + x3) = (x0 * 256 + x1) * 65536 + (x2 * 256 + x3) := or32 16 _ _ (by omega) (by omega) (by omega) (by omega) (by decide) (by omega)
  have r0 : 0 ≤ x0 * 256 + x1 ∧ x0 * 256 + x1 < 65536 := by omega
  have r1 : 0 ≤ x2 * 256 + x3 ∧ x2 * 256 + x3 < 65536 := by omega
  generalize hy0 : x0 * 256 + x1 = y0 at *
  generalize hy1 : x2 * 256 + x3 = y1 at *
  have HY0 := hide hy0
  have HY1 := hide hy1
  have E1 := hide e1
  clear h0 h1 h2 h3 c0 c1 c2 c3 hy0 hy1
  obtain ⟨r00, r01⟩ := r0
  obtain ⟨r10, r11⟩ := r1
  have u1 : IntKind.u32.wrap y0 = y0 := by rw [IntKind.wrap_u32']; omega
  have u2 : IntKind.u32.wrap (y0 * 65536) = y0 * 65536 := by rw [IntKind.wrap_u32']; omega
  have u3 : IntKind.u32.wrap y1 = y1 := by rw [IntKind.wrap_u32']; omega
  go_enter Tryd.func68, Tryd.ntmps68
  go_upto_region 1 with fail
  go_region_held3 (fun w' => Keep w w' Nul)
    (first | exact (Keep.refl w Nul).drew | assumption)
    (first
      | (go_at_call_of 67 (Value.slice (some (Addr.mk b o none)) n c); refine (su16k (w0 := w) b o n c x0 x1 y0 HY0.out _ (by assumption) (by omega) H0.out H1.out C0.out C1.out).mono ?_; rintro e wq ⟨rfl, kq⟩)
      | (go_at_call 67; refine (su16k (w0 := w) b (o + 2) (n - 2) (c - 2) x2 x3 y1 HY1.out _ (by assumption) (by omega) H2.out H3.out C2.out C3.out).mono ?_; rintro e wq ⟨rfl, kq⟩))
  all_goals go_wp2_with fail
  all_goals go_ret
  all_goals exact ⟨rfl, by assumption⟩
/-- u16 of a piece of bytes. -/
theorem su16_at {p : Nat → Prop} {bs : List Int} {b o c n : Nat} (w : World) (hR : Rd w p 1 (.slice (some ⟨b, o, none⟩) n c) n (B8 bs)) (hI : IsB bs) (i : Nat) {k c' : Nat} (hi : i + 2 ≤ n) (hk : 2 ≤ k) :
    Calls Tryd.prog 67 #[.slice (some ⟨b, o + i, none⟩) k c'] w fun e w' => e = .returned (.int .u16 (g16 bs i)) ∧ Keep w w' Nul := by
  have hl : bs.length = n := by have := hR.len; rwa [B8_len] at this
  obtain ⟨b', o', c'', hv, _, _, _, _, hc⟩ := hR.lit (by omega)
  injection hv with e1 _ _
  injection e1 with e1
  injection e1 with e1 e2
  subst e1 e2
  have h0 := hc i _ (B8_get (g8_of (bs := bs) (i := i) (by omega)))
  have h1 := hc (i + 1) _ (B8_get (g8_of (bs := bs) (i := i + 1) (by omega)))
  rw [← Nat.add_assoc] at h1
  exact su16k b (o + i) k c' _ _ _ rfl w (Keep.refl w Nul) hk (g8_rng hI i) (g8_rng hI (i + 1)) h0 h1
/-- u32 of a piece of bytes. -/
theorem su32_at {p : Nat → Prop} {bs : List Int} {b o c n : Nat} (w : World) (hR : Rd w p 1 (.slice (some ⟨b, o, none⟩) n c) n (B8 bs)) (hI : IsB bs) (i : Nat) {k c' : Nat} (hi : i + 4 ≤ n) (hk : 4 ≤ k) (hkc : k ≤ c') :
    Calls Tryd.prog 68 #[.slice (some ⟨b, o + i, none⟩) k c'] w fun e w' => e = .returned (.int .u32 (g32 bs i)) ∧ Keep w w' Nul := by
  have hl : bs.length = n := by have := hR.len; rwa [B8_len] at this
  obtain ⟨b', o', c'', hv, _, _, _, _, hc⟩ := hR.lit (by omega)
  injection hv with e1 _ _
  injection e1 with e1
  injection e1 with e1 e2
  subst e1 e2
  have h0 := hc i _ (B8_get (g8_of (bs := bs) (i := i) (by omega)))
  have h1 := hc (i + 1) _ (B8_get (g8_of (bs := bs) (i := i + 1) (by omega)))
  have h2 := hc (i + 2) _ (B8_get (g8_of (bs := bs) (i := i + 2) (by omega)))
  have h3 := hc (i + 3) _ (B8_get (g8_of (bs := bs) (i := i + 3) (by omega)))
  rw [← Nat.add_assoc] at h1 h2 h3
  exact su32 b (o + i) k c' _ _ _ _ w hk hkc (g8_rng hI i) (g8_rng hI (i + 1)) (g8_rng hI (i + 2)) (g8_rng hI (i + 3)) h0 h1 h2 h3
end Go.Proofs.YtdmnflngafbobaaDoor
namespace Go.Proofs.YtdmnflngafbobaaDoor
open Go.RowKit
set_option linter.unusedVariables false
set_option linter.unusedSimpArgs false
set_option maxRecDepth 100000

set_option maxHeartbeats 1600000 in
theorem sr_p16a {p : Nat → Prop} {bs : List Int} {c b o g B : Nat} {i : Int} {sv xv : Value} {h : Hd} {done : List Ex} {ds : List Value} {Q : Exit → Act → World → Prop} (w : World) (u2 u3 u4 u8 u9 u10 u11 u12 u13 u14 u15 u16 u17 u18 u19 u20 u21 u22 u23 u24 u25 u26 u27 u28 u29 u30 u31 u32 u33 u34 u35 u36 u37 u38 u39 u40 u41 u42 u43 u44 u45 u46 u47 u48 u49 u50 u51 u52 u53 u54 u55 u56 u57 u58 u59 u60 u61 u62 u63 u64 u65 u66 u67 u68 u69 u70 u71 u72 u73 u74 u75 u76 u77 u78 u79 u80 u81 u82 u83 u84 u85 u86 u87 u88 u89 u90 u91 u92 u93 u94 u95 u96 u97 u98 u99 u100 u101 u102 u103 u104 u105 u106 u107 u108 u109 u110 u111 u112 u113 u114 u115 u116 u117 u118 u119 u120 u121 u122 u123 u124 u125 u126 u127 u128 : Value)
    (hQ : ∀ (w' : World) (v107 v108 v109 v110 v111 v112 v113 v114 v115 v116 v117 v118 v119 v120 v121 v122 v123 v124 v125 v126 v127 v128 xv' d : Value) (X : Option Addr), X ≠ none → (c ≠ c → X = some ⟨b, o + c, none⟩) → Blk w' g 27 (hcells h sv xv') → Own w' B 66 2 xv' (done.length + 1) (xcells (done ++ [⟨i, (bs.drop c).take 0⟩]) (ds ++ [d])) → Ds w' p (done ++ [⟨i, (bs.drop c).take 0⟩]) (ds ++ [d]) → Keep w w' (fun k => k = g ∨ xv.ownBlock = some k) →
      Q .normal ⟨List.toArray (.pointer (some ⟨g, 0, none⟩) :: .slice X (c - (c)) (c - (c)) :: u2 :: u3 :: u4 :: .int .u8 i :: .int .i64 0 :: .int .i64 (c : Int) :: u8 :: u9 :: u10 :: u11 :: u12 :: u13 :: u14 :: u15 :: u16 :: u17 :: u18 :: u19 :: u20 :: u21 :: u22 :: u23 :: u24 :: u25 :: u26 :: u27 :: u28 :: u29 :: u30 :: u31 :: u32 :: u33 :: u34 :: u35 :: u36 :: u37 :: u38 :: u39 :: u40 :: u41 :: u42 :: u43 :: u44 :: u45 :: u46 :: u47 :: u48 :: u49 :: u50 :: u51 :: u52 :: u53 :: u54 :: u55 :: u56 :: u57 :: u58 :: u59 :: u60 :: u61 :: u62 :: u63 :: u64 :: u65 :: u66 :: u67 :: u68 :: u69 :: u70 :: u71 :: u72 :: u73 :: u74 :: u75 :: u76 :: u77 :: u78 :: u79 :: u80 :: u81 :: u82 :: u83 :: u84 :: u85 :: u86 :: u87 :: u88 :: u89 :: u90 :: u91 :: u92 :: u93 :: u94 :: u95 :: u96 :: u97 :: u98 :: u99 :: u100 :: u101 :: u102 :: u103 :: u104 :: u105 :: u106 :: v107 :: v108 :: v109 :: v110 :: v111 :: v112 :: v113 :: v114 :: v115 :: v116 :: v117 :: v118 :: v119 :: v120 :: v121 :: v122 :: v123 :: v124 :: v125 :: v126 :: v127 :: v128 :: []), []⟩ w')
    (hR : Rd w p 1 (.slice (some ⟨b, o, none⟩) c c) c (B8 bs)) (hpm : c ≤ c) (hnm : c ≤ 2147483647) (hn0 : 0 < c) (hG : Blk w g 27 (hcells h sv xv)) (hgB : g < B) (hBw : B ≤ w.heap.size) (hO : Own w B 66 2 xv done.length (xcells done ds)) (hD : Ds w p done ds) (hpg : ∀ i, p i → i ≠ g ∧ i < B) (hdl : done.length ≤ 1000000) :
    Part Tryd.prog Tryd.f69 16 Q ⟨List.toArray (.pointer (some ⟨g, 0, none⟩) :: .slice (some ⟨b, o, none⟩) c c :: u2 :: u3 :: u4 :: .int .u8 i :: .int .i64 0 :: .int .i64 (c : Int) :: u8 :: u9 :: u10 :: u11 :: u12 :: u13 :: u14 :: u15 :: u16 :: u17 :: u18 :: u19 :: u20 :: u21 :: u22 :: u23 :: u24 :: u25 :: u26 :: u27 :: u28 :: u29 :: u30 :: u31 :: u32 :: u33 :: u34 :: u35 :: u36 :: u37 :: u38 :: u39 :: u40 :: u41 :: u42 :: u43 :: u44 :: u45 :: u46 :: u47 :: u48 :: u49 :: u50 :: u51 :: u52 :: u53 :: u54 :: u55 :: u56 :: u57 :: u58 :: u59 :: u60 :: u61 :: u62 :: u63 :: u64 :: u65 :: u66 :: u67 :: u68 :: u69 :: u70 :: u71 :: u72 :: u73 :: u74 :: u75 :: u76 :: u77 :: u78 :: u79 :: u80 :: u81 :: u82 :: u83 :: u84 :: u85 :: u86 :: u87 :: u88 :: u89 :: u90 :: u91 :: u92 :: u93 :: u94 :: u95 :: u96 :: u97 :: u98 :: u99 :: u100 :: u101 :: u102 :: u103 :: u104 :: u105 :: u106 :: u107 :: u108 :: u109 :: u110 :: u111 :: u112 :: u113 :: u114 :: u115 :: u116 :: u117 :: u118 :: u119 :: u120 :: u121 :: u122 :: u123 :: u124 :: u125 :: u126 :: u127 :: u128 :: []), []⟩ w := by
  have HQ := hide hQ
  have HR := hide hR
  have HG := hide hG
  have HO := hide hO
  have HDS := hide hD
  have HPG := hide hpg
  have hl : bs.length = c := by have := hR.len; rwa [B8_len] at this
  obtain ⟨_, _, _, hvv, hnc, hcm, hpb, hbw, hcc⟩ := hR.lit (by omega)
  clear hcc
  injection hvv with e1 _ e3
  injection e1 with e1
  injection e1 with e1 e2
  subst e1 e2 e3
  have hdl2 : ((bs.drop c).take 0).length = 0 := by rw [List.length_take, List.length_drop, hl]; omega
  have rd0 := HR.out.sub c (c) (by omega) hpm (some ⟨b, o, none⟩) (fun h => absurd rfl h) (by simp)
  have HD := hide (show Rd w p 1 (Value.slice (some ⟨b, o, none⟩) 0 0) ((bs.drop c).take 0).length (B8 ((bs.drop c).take 0)) by rw [Nat.sub_self] at rd0; rw [hdl2]; exact rd0)
  have h1 : (c : Int) ≤ (c : Int) := by omega
  have h2 : (c : Int) ≤ (c : Int) := by omega
  have h3 : ((c : Int)).toNat = c := by omega
  have h4 : c - c = 0 := by omega
  have h6 : IntKind.i64.wrap ((c : Int)) = (c : Int) := by rw [IntKind.wrap_i64]; omega
  have h7 : (c : Int) ≤ (c : Int) := by omega
  obtain ⟨dn, hdn⟩ : ∃ dn, dn = done.length := ⟨_, rfl⟩
  have HDN := hide hdn
  rw [← hdn] at HO HQ hdl
  have HNG := hide (show ¬ xv.ownBlock = some g from fun e => by have := (hO.at_ g e).1; omega)
  obtain ⟨Au, cu, rfl⟩ := HO.out.rd.shape
  have t10 := hG.cell 10 (v := .slice Au dn cu) rfl
  have lg := hG.lt
  have HOB := hide (fun q e => (hO.at_ q e).1)
  clear hQ hR hG hO hD hpg hdn rd0 hdl2 hl
  refine part_open (fun c0 hc K hK => ?_)
  conv at hc => rhs; whnf
  subst hc
  dsimp only [xOf, yOf] at hK ⊢
  have HK0 := hide hK
  clear hK
  refine wp_region_noPanic ?_
  refine region_last' (S := fun w' => w'.cell? ⟨g, 10, none⟩ = some (.slice Au dn cu)) (by kernel_rfl) (by kernel_rfl) (by simp only [List.dropLast_cons_cons, List.dropLast_singleton]; rfl) (by simp only [List.getLast?_cons_cons, List.getLast?_singleton]; rfl) (t10) (fun hHeld => ?_)
  simp only [List.length_cons, List.length_nil, Nat.reduceAdd, Nat.zero_add]
  refine wpAnyH_take (i := 0) (v := ?_) (by simp only [List.getElem?_toArray, List.getElem?_cons_succ, List.getElem?_cons_zero]; rfl) (by kernel_rfl) (by kernel_rfl) (by kernel_rfl) (fun _ _ _ h => h) (Or.inl ⟨by rfl, ?_⟩) (by assumption) ?_
  rotate_left 1
  · (intro w hSw; (try dsimp only at hSw); go_simp; (try with_reducible rfl))
  try simp only [Act.put, List.setIfInBounds_toArray, List.set_cons_zero, List.set_cons_succ]
  refine wpAnyH_take (i := 1) (v := ?_) (by simp only [List.getElem?_toArray, List.getElem?_cons_succ, List.getElem?_cons_zero]; rfl) (by kernel_rfl) (by kernel_rfl) (by kernel_rfl) (fun _ _ _ h => h) (Or.inl ⟨by rfl, ?_⟩) (by assumption) ?_
  rotate_left 1
  · (intro w hSw; (try dsimp only at hSw); go_simp; (try with_reducible rfl))
  try simp only [Act.put, List.setIfInBounds_toArray, List.set_cons_zero, List.set_cons_succ]
  refine wpAnyH_take (i := 2) (v := ?_) (by simp only [List.getElem?_toArray, List.getElem?_cons_succ, List.getElem?_cons_zero]; rfl) (by kernel_rfl) (by kernel_rfl) (by kernel_rfl) (fun _ _ _ h => h) (Or.inl ⟨by rfl, ?_⟩) (by assumption) ?_
  rotate_left 1
  · (intro w hSw; (try dsimp only at hSw); go_simp; (try with_reducible rfl))
  try simp only [Act.put, List.setIfInBounds_toArray, List.set_cons_zero, List.set_cons_succ]
  refine wpAnyH_take (i := 3) (v := ?_) (by simp only [List.getElem?_toArray, List.getElem?_cons_succ, List.getElem?_cons_zero]; rfl) (by kernel_rfl) (by kernel_rfl) (by kernel_rfl) (fun _ _ _ h => h) (Or.inl ⟨by rfl, ?_⟩) (by assumption) ?_
  rotate_left 1
  · (intro w hSw; (try dsimp only at hSw); go_simp; (try with_reducible rfl))
  try simp only [Act.put, List.setIfInBounds_toArray, List.set_cons_zero, List.set_cons_succ]
  refine wpAnyH_take (i := 4) (v := ?_) (by simp only [List.getElem?_toArray, List.getElem?_cons_succ, List.getElem?_cons_zero]; rfl) (by kernel_rfl) (by kernel_rfl) (by kernel_rfl) (fun _ _ _ h => h) (Or.inl ⟨by rfl, ?_⟩) (by assumption) ?_
  rotate_left 1
  · (intro w hSw; (try dsimp only at hSw); go_simp; (try with_reducible rfl))
  try simp only [Act.put, List.setIfInBounds_toArray, List.set_cons_zero, List.set_cons_succ]
  refine wpAnyH_take (i := 5) (v := ?_) (by simp only [List.getElem?_toArray, List.getElem?_cons_succ, List.getElem?_cons_zero]; rfl) (by kernel_rfl) (by kernel_rfl) (by kernel_rfl) (fun _ _ _ h => h) (Or.inl ⟨by rfl, ?_⟩) (by assumption) ?_
  rotate_left 1
  · (intro w hSw; (try dsimp only at hSw); go_simp; (try with_reducible rfl))
  try simp only [Act.put, List.setIfInBounds_toArray, List.set_cons_zero, List.set_cons_succ]
  refine wpAnyH_take (i := 6) (v := ?_) (by simp only [List.getElem?_toArray, List.getElem?_cons_succ, List.getElem?_cons_zero]; rfl) (by kernel_rfl) (by kernel_rfl) (by kernel_rfl) (fun _ _ _ h => h) (Or.inl ⟨by rfl, ?_⟩) (by assumption) ?_
  rotate_left 1
  · (intro w hSw; (try dsimp only at hSw); go_simp; (try with_reducible rfl))
  try simp only [Act.put, List.setIfInBounds_toArray, List.set_cons_zero, List.set_cons_succ]
  refine wpAnyH_take (i := 7) (v := ?_) (by simp only [List.getElem?_toArray, List.getElem?_cons_succ, List.getElem?_cons_zero]; rfl) (by kernel_rfl) (by kernel_rfl) (by kernel_rfl) (fun _ _ _ h => h) (Or.inl ⟨by rfl, ?_⟩) (by assumption) ?_
  rotate_left 1
  · (intro w hSw; (try dsimp only at hSw); go_simp; (try with_reducible rfl))
  try simp only [Act.put, List.setIfInBounds_toArray, List.set_cons_zero, List.set_cons_succ]
  refine wpAnyH_take (i := 8) (v := ?_) (by simp only [List.getElem?_toArray, List.getElem?_cons_succ, List.getElem?_cons_zero]; rfl) (by kernel_rfl) (by kernel_rfl) (by kernel_rfl) (fun _ _ _ h => h) (Or.inl ⟨by rfl, ?_⟩) (by assumption) ?_
  rotate_left 1
  · (intro w hSw; (try dsimp only at hSw); go_simp; (try with_reducible rfl))
  try simp only [Act.put, List.setIfInBounds_toArray, List.set_cons_zero, List.set_cons_succ]
  refine wpAnyH_take (i := 9) (v := ?_) (by simp only [List.getElem?_toArray, List.getElem?_cons_succ, List.getElem?_cons_zero]; rfl) (by kernel_rfl) (by kernel_rfl) (by kernel_rfl) (fun _ _ _ h => h) (Or.inl ⟨by rfl, ?_⟩) (by assumption) ?_
  rotate_left 1
  · (intro w hSw; (try dsimp only at hSw); go_simp; (try with_reducible rfl))
  try simp only [Act.put, List.setIfInBounds_toArray, List.set_cons_zero, List.set_cons_succ]
  refine wpAnyH_take (i := 10) (v := ?_) (by simp only [List.getElem?_toArray, List.getElem?_cons_succ, List.getElem?_cons_zero]; rfl) (by kernel_rfl) (by kernel_rfl) (by kernel_rfl) (fun _ _ _ h => h) (Or.inl ⟨by rfl, ?_⟩) (by assumption) ?_
  rotate_left 1
  · (intro w hSw; (try dsimp only at hSw); go_simp; (try with_reducible rfl))
  try simp only [Act.put, List.setIfInBounds_toArray, List.set_cons_zero, List.set_cons_succ]
  refine wpAnyH_take (i := 11) (v := ?_) (by simp only [List.getElem?_toArray, List.getElem?_cons_succ, List.getElem?_cons_zero]; rfl) (by kernel_rfl) (by kernel_rfl) (by kernel_rfl) (fun _ _ _ h => h) (Or.inl ⟨by rfl, ?_⟩) (by assumption) ?_
  rotate_left 1
  · (intro w hSw; (try dsimp only at hSw); go_simp; (try with_reducible rfl))
  try simp only [Act.put, List.setIfInBounds_toArray, List.set_cons_zero, List.set_cons_succ]
  refine wpAnyH_take (i := 12) (v := ?_) (by simp only [List.getElem?_toArray, List.getElem?_cons_succ, List.getElem?_cons_zero]; rfl) (by kernel_rfl) (by kernel_rfl) (by kernel_rfl) (fun _ _ _ h => h) (Or.inl ⟨by rfl, ?_⟩) (by assumption) ?_
  rotate_left 1
  · (intro w hSw; (try dsimp only at hSw); go_simp; (try with_reducible rfl))
  try simp only [Act.put, List.setIfInBounds_toArray, List.set_cons_zero, List.set_cons_succ]
  refine wpAnyH_ready (rs := [13]) (by kernel_rfl) (by simp) ?_
  refine AllReadyH.cons (by simp only [List.getElem?_toArray, List.getElem?_cons_succ, List.getElem?_cons_zero]; rfl) (fun K hK => ?_) AllReadyH.nil
  go_simp
  refine hK.out _ _ ((HG.out.drew.alloc _).cell 10 rfl) (fun hHeld => ?_)
  clear hK K
  try simp only [Act.put, List.setIfInBounds_toArray, List.set_cons_zero, List.set_cons_succ]
  refine wpAnyH_ready (rs := [14]) (by kernel_rfl) (by simp) ?_
  refine AllReadyH.cons (by simp only [List.getElem?_toArray, List.getElem?_cons_succ, List.getElem?_cons_zero]; rfl) (fun K hK => ?_) AllReadyH.nil
  refine step_app etS (by rfl) _ _ (by rfl) (HO.out.drew.alloc _) (by rfl) (src_one (w := w.drew) (g := w.heap.size) (cs := #[.int .u8 i, (Value.slice (some ⟨b, o, none⟩) 0 0)]) Tryd.underlying25 rfl rfl (by intro u hu; simp at hu; rcases hu with rfl | rfl <;> rfl)) (by rfl) (by simp only [maxLen]; omega) (by omega) (by simp only [World.size_alloc, World.drew]; exact Nat.le_succ_of_le hBw) ?_
  intro v3 w3 o3 k3 b3 z3 _
  have hb3 := (HG.out.drew.alloc _).keep k3 HNG.out
  have f10 := hb3.free 10
  have g10 := hb3.cell 10 (v := .slice Au dn cu) rfl
  have l3 := hb3.lt
  obtain ⟨A5, c5, rfl⟩ := o3.rd.shape
  refine hK.out _ _ (hb3.cell 10 rfl) (fun hHeld => ?_)
  clear hK K
  try simp only [Act.put, List.setIfInBounds_toArray, List.set_cons_zero, List.set_cons_succ]
  refine wpAnyH_take (i := 15) (v := ?_) (by simp only [List.getElem?_toArray, List.getElem?_cons_succ, List.getElem?_cons_zero]; rfl) (by kernel_rfl) (by kernel_rfl) (by kernel_rfl) (fun _ _ _ h => h) (Or.inl ⟨by rfl, ?_⟩) (by assumption) ?_
  rotate_left 1
  · (intro w hSw; (try dsimp only at hSw); go_simp; (try with_reducible rfl))
  try simp only [Act.put, List.setIfInBounds_toArray, List.set_cons_zero, List.set_cons_succ]
  refine wpAnyH_take (i := 16) (v := ?_) (by simp only [List.getElem?_toArray, List.getElem?_cons_succ, List.getElem?_cons_zero]; rfl) (by kernel_rfl) (by kernel_rfl) (by kernel_rfl) (fun _ _ _ h => h) (Or.inl ⟨by rfl, ?_⟩) (by assumption) ?_
  rotate_left 1
  · (intro w hSw; (try dsimp only at hSw); go_simp; (try with_reducible rfl))
  try simp only [Act.put, List.setIfInBounds_toArray, List.set_cons_zero, List.set_cons_succ]
  refine wpAnyH_done (by kernel_rfl) ?_ _
  intro K hK
  have k13 : Keep w w3 (fun q => (Value.slice Au dn cu).ownBlock = some q) := ((((Keep.refl w _).drew).alloc _).trans k3 fun _ _ e => e)
  have kst : Keep w3 (w3.setCell ⟨g, 10, none⟩ (.slice A5 (dn + 1) c5)) (· = g) := Keep.set1 _ _ _ _
  have hb4 := hide (show Blk (w3.setCell ⟨g, 10, none⟩ (.slice A5 (dn + 1) c5)) g 27 (hcells h sv (.slice A5 (dn + 1) c5)) from hb3.set_ 10 (.slice A5 (dn + 1) c5))
  have ho4 := hide (o3.keep kst (fun q hq e => by have := (o3.at_ q hq).1; omega))
  have hd3 := (HDS.out.snoc (x := ⟨i, (bs.drop c).take 0⟩) HD.out).keep k13 (fun i _ hi e => by have := (HPG.out i hi).2; have := HOB.out i e; omega)
  have hd4 := hide (hd3.keep kst (fun i _ hi e => (HPG.out i hi).1 e))
  have hk4 := hide (show Keep w (w3.setCell ⟨g, 10, none⟩ (.slice A5 (dn + 1) c5)) (fun k => k = g ∨ (Value.slice Au dn cu).ownBlock = some k) from (k13.mono (fun _ _ e => .inr e)).setg 10 (fun _ => .inl rfl) _)
  clear k13 kst o3 k3 b3 z3 hb3 hd3 hHeld
  go_simp
  refine hK _ _ (NoPanic.normal ?_)
  refine HK0.out _ _ ?_
  clear hK
  go_wp2_with fail
  have HQ2 := HQ.out
  simp only [Nat.sub_self] at HQ2
  refine HQ2 _ _ _ _ _ _ _ _ _ _ _ _ _ _ _ _ _ _ _ _ _ _ _  _ _ (some ⟨b, o, none⟩) (by simp) (fun h => absurd rfl h) hb4.out ?_ hd4.out hk4.out
  rw [xcells_snoc _ _ _ _ HDS.out.1]
  exact ho4.out

set_option maxHeartbeats 1600000 in
theorem sr_p16b {p : Nat → Prop} {bs : List Int} {n c b o g B P m : Nat} {i : Int} {sv xv : Value} {h : Hd} {done : List Ex} {ds : List Value} {Q : Exit → Act → World → Prop} (w : World) (u2 u3 u4 u8 u9 u10 u11 u12 u13 u14 u15 u16 u17 u18 u19 u20 u21 u22 u23 u24 u25 u26 u27 u28 u29 u30 u31 u32 u33 u34 u35 u36 u37 u38 u39 u40 u41 u42 u43 u44 u45 u46 u47 u48 u49 u50 u51 u52 u53 u54 u55 u56 u57 u58 u59 u60 u61 u62 u63 u64 u65 u66 u67 u68 u69 u70 u71 u72 u73 u74 u75 u76 u77 u78 u79 u80 u81 u82 u83 u84 u85 u86 u87 u88 u89 u90 u91 u92 u93 u94 u95 u96 u97 u98 u99 u100 u101 u102 u103 u104 u105 u106 u107 u108 u109 u110 u111 u112 u113 u114 u115 u116 u117 u118 u119 u120 u121 u122 u123 u124 u125 u126 u127 u128 : Value)
    (hQ : ∀ (w' : World) (v107 v108 v109 v110 v111 v112 v113 v114 v115 v116 v117 v118 v119 v120 v121 v122 v123 v124 v125 v126 v127 v128 xv' d : Value) (X : Option Addr), X ≠ none → (c ≠ P + m → X = some ⟨b, o + (P + m), none⟩) → Blk w' g 27 (hcells h sv xv') → Own w' B 66 2 xv' (done.length + 1) (xcells (done ++ [⟨i, (bs.drop P).take m⟩]) (ds ++ [d])) → Ds w' p (done ++ [⟨i, (bs.drop P).take m⟩]) (ds ++ [d]) → Keep w w' (fun k => k = g ∨ xv.ownBlock = some k) →
      Q .normal ⟨List.toArray (.pointer (some ⟨g, 0, none⟩) :: .slice X (n - (P + m)) (c - (P + m)) :: u2 :: u3 :: u4 :: .int .u8 i :: .int .i64 (m : Int) :: .int .i64 (P : Int) :: u8 :: u9 :: u10 :: u11 :: u12 :: u13 :: u14 :: u15 :: u16 :: u17 :: u18 :: u19 :: u20 :: u21 :: u22 :: u23 :: u24 :: u25 :: u26 :: u27 :: u28 :: u29 :: u30 :: u31 :: u32 :: u33 :: u34 :: u35 :: u36 :: u37 :: u38 :: u39 :: u40 :: u41 :: u42 :: u43 :: u44 :: u45 :: u46 :: u47 :: u48 :: u49 :: u50 :: u51 :: u52 :: u53 :: u54 :: u55 :: u56 :: u57 :: u58 :: u59 :: u60 :: u61 :: u62 :: u63 :: u64 :: u65 :: u66 :: u67 :: u68 :: u69 :: u70 :: u71 :: u72 :: u73 :: u74 :: u75 :: u76 :: u77 :: u78 :: u79 :: u80 :: u81 :: u82 :: u83 :: u84 :: u85 :: u86 :: u87 :: u88 :: u89 :: u90 :: u91 :: u92 :: u93 :: u94 :: u95 :: u96 :: u97 :: u98 :: u99 :: u100 :: u101 :: u102 :: u103 :: u104 :: u105 :: u106 :: v107 :: v108 :: v109 :: v110 :: v111 :: v112 :: v113 :: v114 :: v115 :: v116 :: v117 :: v118 :: v119 :: v120 :: v121 :: v122 :: v123 :: v124 :: v125 :: v126 :: v127 :: v128 :: []), []⟩ w')
    (hR : Rd w p 1 (.slice (some ⟨b, o, none⟩) n c) n (B8 bs)) (hpm : P + m ≤ n) (hnm : n ≤ 2147483647) (hn0 : 0 < n) (hG : Blk w g 27 (hcells h sv xv)) (hgB : g < B) (hBw : B ≤ w.heap.size) (hO : Own w B 66 2 xv done.length (xcells done ds)) (hD : Ds w p done ds) (hpg : ∀ i, p i → i ≠ g ∧ i < B) (hdl : done.length ≤ 1000000) (hcP : ¬ c = P) :
    Part Tryd.prog Tryd.f69 16 Q ⟨List.toArray (.pointer (some ⟨g, 0, none⟩) :: .slice (some ⟨b, o, none⟩) n c :: u2 :: u3 :: u4 :: .int .u8 i :: .int .i64 (m : Int) :: .int .i64 (P : Int) :: u8 :: u9 :: u10 :: u11 :: u12 :: u13 :: u14 :: u15 :: u16 :: u17 :: u18 :: u19 :: u20 :: u21 :: u22 :: u23 :: u24 :: u25 :: u26 :: u27 :: u28 :: u29 :: u30 :: u31 :: u32 :: u33 :: u34 :: u35 :: u36 :: u37 :: u38 :: u39 :: u40 :: u41 :: u42 :: u43 :: u44 :: u45 :: u46 :: u47 :: u48 :: u49 :: u50 :: u51 :: u52 :: u53 :: u54 :: u55 :: u56 :: u57 :: u58 :: u59 :: u60 :: u61 :: u62 :: u63 :: u64 :: u65 :: u66 :: u67 :: u68 :: u69 :: u70 :: u71 :: u72 :: u73 :: u74 :: u75 :: u76 :: u77 :: u78 :: u79 :: u80 :: u81 :: u82 :: u83 :: u84 :: u85 :: u86 :: u87 :: u88 :: u89 :: u90 :: u91 :: u92 :: u93 :: u94 :: u95 :: u96 :: u97 :: u98 :: u99 :: u100 :: u101 :: u102 :: u103 :: u104 :: u105 :: u106 :: u107 :: u108 :: u109 :: u110 :: u111 :: u112 :: u113 :: u114 :: u115 :: u116 :: u117 :: u118 :: u119 :: u120 :: u121 :: u122 :: u123 :: u124 :: u125 :: u126 :: u127 :: u128 :: []), []⟩ w := by
  have HQ := hide hQ
  have HR := hide hR
  have HG := hide hG
  have HO := hide hO
  have HDS := hide hD
  have HPG := hide hpg
  have hl : bs.length = n := by have := hR.len; rwa [B8_len] at this
  obtain ⟨_, _, _, hvv, hnc, hcm, hpb, hbw, hcc⟩ := hR.lit (by omega)
  clear hcc
  injection hvv with e1 _ e3
  injection e1 with e1
  injection e1 with e1 e2
  subst e1 e2 e3
  have hdl2 : ((bs.drop P).take m).length = m := by rw [List.length_take, List.length_drop, hl]; omega
  have rd0 := HR.out.sub P (P + m) (by omega) hpm (some ⟨b, o + P, none⟩) (fun _ => rfl) (by simp)
  have HD := hide (show Rd w p 1 (Value.slice (some ⟨b, o + P, none⟩) m (c - P)) ((bs.drop P).take m).length (B8 ((bs.drop P).take m)) by rw [show P + m - P = m by omega] at rd0; rw [hdl2]; exact rd0)
  have h1 : (P : Int) ≤ (P : Int) + (m : Int) := by omega
  have h2 : (P : Int) + (m : Int) ≤ (c : Int) := by omega
  have h3 : ((P : Int) + (m : Int)).toNat = P + m := by omega
  have h4 : P + m - P = m := by omega
  have h6 : IntKind.i64.wrap ((P : Int) + (m : Int)) = (P : Int) + (m : Int) := by rw [IntKind.wrap_i64]; omega
  have h7 : (P : Int) + (m : Int) ≤ (n : Int) := by omega
  obtain ⟨dn, hdn⟩ : ∃ dn, dn = done.length := ⟨_, rfl⟩
  have HDN := hide hdn
  rw [← hdn] at HO HQ hdl
  have HNG := hide (show ¬ xv.ownBlock = some g from fun e => by have := (hO.at_ g e).1; omega)
  obtain ⟨Au, cu, rfl⟩ := HO.out.rd.shape
  have t10 := hG.cell 10 (v := .slice Au dn cu) rfl
  have lg := hG.lt
  have HOB := hide (fun q e => (hO.at_ q e).1)
  clear hQ hR hG hO hD hpg hdn rd0 hdl2 hl
  refine part_open (fun c0 hc K hK => ?_)
  conv at hc => rhs; whnf
  subst hc
  dsimp only [xOf, yOf] at hK ⊢
  have HK0 := hide hK
  clear hK
  refine wp_region_noPanic ?_
  refine region_last' (S := fun w' => w'.cell? ⟨g, 10, none⟩ = some (.slice Au dn cu)) (by kernel_rfl) (by kernel_rfl) (by simp only [List.dropLast_cons_cons, List.dropLast_singleton]; rfl) (by simp only [List.getLast?_cons_cons, List.getLast?_singleton]; rfl) (t10) (fun hHeld => ?_)
  simp only [List.length_cons, List.length_nil, Nat.reduceAdd, Nat.zero_add]
  refine wpAnyH_take (i := 0) (v := ?_) (by simp only [List.getElem?_toArray, List.getElem?_cons_succ, List.getElem?_cons_zero]; rfl) (by kernel_rfl) (by kernel_rfl) (by kernel_rfl) (fun _ _ _ h => h) (Or.inl ⟨by rfl, ?_⟩) (by assumption) ?_
  rotate_left 1
  · (intro w hSw; (try dsimp only at hSw); go_simp; (try with_reducible rfl))
  try simp only [Act.put, List.setIfInBounds_toArray, List.set_cons_zero, List.set_cons_succ]
  refine wpAnyH_take (i := 1) (v := ?_) (by simp only [List.getElem?_toArray, List.getElem?_cons_succ, List.getElem?_cons_zero]; rfl) (by kernel_rfl) (by kernel_rfl) (by kernel_rfl) (fun _ _ _ h => h) (Or.inl ⟨by rfl, ?_⟩) (by assumption) ?_
  rotate_left 1
  · (intro w hSw; (try dsimp only at hSw); go_simp; (try with_reducible rfl))
  try simp only [Act.put, List.setIfInBounds_toArray, List.set_cons_zero, List.set_cons_succ]
  refine wpAnyH_take (i := 2) (v := ?_) (by simp only [List.getElem?_toArray, List.getElem?_cons_succ, List.getElem?_cons_zero]; rfl) (by kernel_rfl) (by kernel_rfl) (by kernel_rfl) (fun _ _ _ h => h) (Or.inl ⟨by rfl, ?_⟩) (by assumption) ?_
  rotate_left 1
  · (intro w hSw; (try dsimp only at hSw); go_simp; (try with_reducible rfl))
  try simp only [Act.put, List.setIfInBounds_toArray, List.set_cons_zero, List.set_cons_succ]
  refine wpAnyH_take (i := 3) (v := ?_) (by simp only [List.getElem?_toArray, List.getElem?_cons_succ, List.getElem?_cons_zero]; rfl) (by kernel_rfl) (by kernel_rfl) (by kernel_rfl) (fun _ _ _ h => h) (Or.inl ⟨by rfl, ?_⟩) (by assumption) ?_
  rotate_left 1
  · (intro w hSw; (try dsimp only at hSw); go_simp; (try with_reducible rfl))
  try simp only [Act.put, List.setIfInBounds_toArray, List.set_cons_zero, List.set_cons_succ]
  refine wpAnyH_take (i := 4) (v := ?_) (by simp only [List.getElem?_toArray, List.getElem?_cons_succ, List.getElem?_cons_zero]; rfl) (by kernel_rfl) (by kernel_rfl) (by kernel_rfl) (fun _ _ _ h => h) (Or.inl ⟨by rfl, ?_⟩) (by assumption) ?_
  rotate_left 1
  · (intro w hSw; (try dsimp only at hSw); go_simp; (try with_reducible rfl))
  try simp only [Act.put, List.setIfInBounds_toArray, List.set_cons_zero, List.set_cons_succ]
  refine wpAnyH_take (i := 5) (v := ?_) (by simp only [List.getElem?_toArray, List.getElem?_cons_succ, List.getElem?_cons_zero]; rfl) (by kernel_rfl) (by kernel_rfl) (by kernel_rfl) (fun _ _ _ h => h) (Or.inl ⟨by rfl, ?_⟩) (by assumption) ?_
  rotate_left 1
  · (intro w hSw; (try dsimp only at hSw); go_simp; (try with_reducible rfl))
  try simp only [Act.put, List.setIfInBounds_toArray, List.set_cons_zero, List.set_cons_succ]
  refine wpAnyH_take (i := 6) (v := ?_) (by simp only [List.getElem?_toArray, List.getElem?_cons_succ, List.getElem?_cons_zero]; rfl) (by kernel_rfl) (by kernel_rfl) (by kernel_rfl) (fun _ _ _ h => h) (Or.inl ⟨by rfl, ?_⟩) (by assumption) ?_
  rotate_left 1
  · (intro w hSw; (try dsimp only at hSw); go_simp; (try with_reducible rfl))
  try simp only [Act.put, List.setIfInBounds_toArray, List.set_cons_zero, List.set_cons_succ]
  refine wpAnyH_take (i := 7) (v := ?_) (by simp only [List.getElem?_toArray, List.getElem?_cons_succ, List.getElem?_cons_zero]; rfl) (by kernel_rfl) (by kernel_rfl) (by kernel_rfl) (fun _ _ _ h => h) (Or.inl ⟨by rfl, ?_⟩) (by assumption) ?_
  rotate_left 1
  · (intro w hSw; (try dsimp only at hSw); go_simp; (try with_reducible rfl))
  try simp only [Act.put, List.setIfInBounds_toArray, List.set_cons_zero, List.set_cons_succ]
  refine wpAnyH_take (i := 8) (v := ?_) (by simp only [List.getElem?_toArray, List.getElem?_cons_succ, List.getElem?_cons_zero]; rfl) (by kernel_rfl) (by kernel_rfl) (by kernel_rfl) (fun _ _ _ h => h) (Or.inl ⟨by rfl, ?_⟩) (by assumption) ?_
  rotate_left 1
  · (intro w hSw; (try dsimp only at hSw); go_simp; (try with_reducible rfl))
  try simp only [Act.put, List.setIfInBounds_toArray, List.set_cons_zero, List.set_cons_succ]
  refine wpAnyH_take (i := 9) (v := ?_) (by simp only [List.getElem?_toArray, List.getElem?_cons_succ, List.getElem?_cons_zero]; rfl) (by kernel_rfl) (by kernel_rfl) (by kernel_rfl) (fun _ _ _ h => h) (Or.inl ⟨by rfl, ?_⟩) (by assumption) ?_
  rotate_left 1
  · (intro w hSw; (try dsimp only at hSw); go_simp; (try with_reducible rfl))
  try simp only [Act.put, List.setIfInBounds_toArray, List.set_cons_zero, List.set_cons_succ]
  refine wpAnyH_take (i := 10) (v := ?_) (by simp only [List.getElem?_toArray, List.getElem?_cons_succ, List.getElem?_cons_zero]; rfl) (by kernel_rfl) (by kernel_rfl) (by kernel_rfl) (fun _ _ _ h => h) (Or.inl ⟨by rfl, ?_⟩) (by assumption) ?_
  rotate_left 1
  · (intro w hSw; (try dsimp only at hSw); go_simp; (try with_reducible rfl))
  try simp only [Act.put, List.setIfInBounds_toArray, List.set_cons_zero, List.set_cons_succ]
  refine wpAnyH_take (i := 11) (v := ?_) (by simp only [List.getElem?_toArray, List.getElem?_cons_succ, List.getElem?_cons_zero]; rfl) (by kernel_rfl) (by kernel_rfl) (by kernel_rfl) (fun _ _ _ h => h) (Or.inl ⟨by rfl, ?_⟩) (by assumption) ?_
  rotate_left 1
  · (intro w hSw; (try dsimp only at hSw); go_simp; (try with_reducible rfl))
  try simp only [Act.put, List.setIfInBounds_toArray, List.set_cons_zero, List.set_cons_succ]
  refine wpAnyH_take (i := 12) (v := ?_) (by simp only [List.getElem?_toArray, List.getElem?_cons_succ, List.getElem?_cons_zero]; rfl) (by kernel_rfl) (by kernel_rfl) (by kernel_rfl) (fun _ _ _ h => h) (Or.inl ⟨by rfl, ?_⟩) (by assumption) ?_
  rotate_left 1
  · (intro w hSw; (try dsimp only at hSw); go_simp; (try with_reducible rfl))
  try simp only [Act.put, List.setIfInBounds_toArray, List.set_cons_zero, List.set_cons_succ]
  refine wpAnyH_ready (rs := [13]) (by kernel_rfl) (by simp) ?_
  refine AllReadyH.cons (by simp only [List.getElem?_toArray, List.getElem?_cons_succ, List.getElem?_cons_zero]; rfl) (fun K hK => ?_) AllReadyH.nil
  go_simp
  refine hK.out _ _ ((HG.out.drew.alloc _).cell 10 rfl) (fun hHeld => ?_)
  clear hK K
  try simp only [Act.put, List.setIfInBounds_toArray, List.set_cons_zero, List.set_cons_succ]
  refine wpAnyH_ready (rs := [14]) (by kernel_rfl) (by simp) ?_
  refine AllReadyH.cons (by simp only [List.getElem?_toArray, List.getElem?_cons_succ, List.getElem?_cons_zero]; rfl) (fun K hK => ?_) AllReadyH.nil
  refine step_app etS (by rfl) _ _ (by rfl) (HO.out.drew.alloc _) (by rfl) (src_one (w := w.drew) (g := w.heap.size) (cs := #[.int .u8 i, (Value.slice (some ⟨b, o + P, none⟩) m (c - P))]) Tryd.underlying25 rfl rfl (by intro u hu; simp at hu; rcases hu with rfl | rfl <;> rfl)) (by rfl) (by simp only [maxLen]; omega) (by omega) (by simp only [World.size_alloc, World.drew]; exact Nat.le_succ_of_le hBw) ?_
  intro v3 w3 o3 k3 b3 z3 _
  have hb3 := (HG.out.drew.alloc _).keep k3 HNG.out
  have f10 := hb3.free 10
  have g10 := hb3.cell 10 (v := .slice Au dn cu) rfl
  have l3 := hb3.lt
  obtain ⟨A5, c5, rfl⟩ := o3.rd.shape
  refine hK.out _ _ (hb3.cell 10 rfl) (fun hHeld => ?_)
  clear hK K
  try simp only [Act.put, List.setIfInBounds_toArray, List.set_cons_zero, List.set_cons_succ]
  refine wpAnyH_take (i := 15) (v := ?_) (by simp only [List.getElem?_toArray, List.getElem?_cons_succ, List.getElem?_cons_zero]; rfl) (by kernel_rfl) (by kernel_rfl) (by kernel_rfl) (fun _ _ _ h => h) (Or.inl ⟨by rfl, ?_⟩) (by assumption) ?_
  rotate_left 1
  · (intro w hSw; (try dsimp only at hSw); go_simp; (try with_reducible rfl))
  try simp only [Act.put, List.setIfInBounds_toArray, List.set_cons_zero, List.set_cons_succ]
  refine wpAnyH_take (i := 16) (v := ?_) (by simp only [List.getElem?_toArray, List.getElem?_cons_succ, List.getElem?_cons_zero]; rfl) (by kernel_rfl) (by kernel_rfl) (by kernel_rfl) (fun _ _ _ h => h) (Or.inl ⟨by rfl, ?_⟩) (by assumption) ?_
  rotate_left 1
  · (intro w hSw; (try dsimp only at hSw); go_simp; (try with_reducible rfl))
  try simp only [Act.put, List.setIfInBounds_toArray, List.set_cons_zero, List.set_cons_succ]
  refine wpAnyH_done (by kernel_rfl) ?_ _
  intro K hK
  have k13 : Keep w w3 (fun q => (Value.slice Au dn cu).ownBlock = some q) := ((((Keep.refl w _).drew).alloc _).trans k3 fun _ _ e => e)
  have kst : Keep w3 (w3.setCell ⟨g, 10, none⟩ (.slice A5 (dn + 1) c5)) (· = g) := Keep.set1 _ _ _ _
  have hb4 := hide (show Blk (w3.setCell ⟨g, 10, none⟩ (.slice A5 (dn + 1) c5)) g 27 (hcells h sv (.slice A5 (dn + 1) c5)) from hb3.set_ 10 (.slice A5 (dn + 1) c5))
  have ho4 := hide (o3.keep kst (fun q hq e => by have := (o3.at_ q hq).1; omega))
  have hd3 := (HDS.out.snoc (x := ⟨i, (bs.drop P).take m⟩) HD.out).keep k13 (fun i _ hi e => by have := (HPG.out i hi).2; have := HOB.out i e; omega)
  have hd4 := hide (hd3.keep kst (fun i _ hi e => (HPG.out i hi).1 e))
  have hk4 := hide (show Keep w (w3.setCell ⟨g, 10, none⟩ (.slice A5 (dn + 1) c5)) (fun k => k = g ∨ (Value.slice Au dn cu).ownBlock = some k) from (k13.mono (fun _ _ e => .inr e)).setg 10 (fun _ => .inl rfl) _)
  clear k13 kst o3 k3 b3 z3 hb3 hd3 hHeld
  go_simp
  refine hK _ _ (NoPanic.normal ?_)
  refine HK0.out _ _ ?_
  clear hK
  by_cases hc2 : c = P + m
  · have hn2 : n = P + m := by omega
    subst hc2
    subst hn2
    clear h2 h7 hcP
    go_wp2_with fail
    have HQ2 := HQ.out
    simp only [Nat.sub_self] at HQ2
    refine HQ2 _ _ _ _ _ _ _ _ _ _ _ _ _ _ _ _ _ _ _ _ _ _ _  _ _ (some ⟨b, o, none⟩) (by simp) (fun h => absurd rfl h) hb4.out ?_ hd4.out hk4.out
    rw [xcells_snoc _ _ _ _ HDS.out.1]
    exact ho4.out
  · have hc3 : ¬ c = P + m := hc2
    go_wp2_with fail
    refine HQ.out _ _ _ _ _ _ _ _ _ _ _ _ _ _ _ _ _ _ _ _ _ _ _  _ (Value.slice (some ⟨b, o + P, none⟩) m (c - P)) (some ⟨b, o + (P + m), none⟩) (by simp) (fun _ => rfl) hb4.out ?_ hd4.out hk4.out
    rw [xcells_snoc _ _ _ _ HDS.out.1]
    exact ho4.out
end Go.Proofs.YtdmnflngafbobaaDoor
namespace Go.Proofs.YtdmnflngafbobaaDoor
open Go.RowKit
set_option linter.unusedVariables false
set_option linter.unusedSimpArgs false
set_option maxRecDepth 100000

theorem sr_p16i {p : Nat → Prop} {bs : List Int} {n c b o g B : Nat} {i : Int} {sv xv : Value} {h : Hd} {done : List Ex} {ds : List Value} {Q : Exit → Act → World → Prop} (w : World) (P m : Nat) (x6 x7 : Int) (h6 : x6 = m) (h7 : x7 = P) (u2 u3 u4 u8 u9 u10 u11 u12 u13 u14 u15 u16 u17 u18 u19 u20 u21 u22 u23 u24 u25 u26 u27 u28 u29 u30 u31 u32 u33 u34 u35 u36 u37 u38 u39 u40 u41 u42 u43 u44 u45 u46 u47 u48 u49 u50 u51 u52 u53 u54 u55 u56 u57 u58 u59 u60 u61 u62 u63 u64 u65 u66 u67 u68 u69 u70 u71 u72 u73 u74 u75 u76 u77 u78 u79 u80 u81 u82 u83 u84 u85 u86 u87 u88 u89 u90 u91 u92 u93 u94 u95 u96 u97 u98 u99 u100 u101 u102 u103 u104 u105 u106 u107 u108 u109 u110 u111 u112 u113 u114 u115 u116 u117 u118 u119 u120 u121 u122 u123 u124 u125 u126 u127 u128 : Value)
    (hQ : ∀ (w' : World) (v107 v108 v109 v110 v111 v112 v113 v114 v115 v116 v117 v118 v119 v120 v121 v122 v123 v124 v125 v126 v127 v128 xv' d : Value) (X : Option Addr), X ≠ none → (c ≠ P + m → X = some ⟨b, o + (P + m), none⟩) → Blk w' g 27 (hcells h sv xv') → Own w' B 66 2 xv' (done.length + 1) (xcells (done ++ [⟨i, (bs.drop P).take m⟩]) (ds ++ [d])) → Ds w' p (done ++ [⟨i, (bs.drop P).take m⟩]) (ds ++ [d]) → Keep w w' (fun k => k = g ∨ xv.ownBlock = some k) →
      Q .normal ⟨List.toArray (.pointer (some ⟨g, 0, none⟩) :: .slice X (n - (P + m)) (c - (P + m)) :: u2 :: u3 :: u4 :: .int .u8 i :: .int .i64 x6 :: .int .i64 x7 :: u8 :: u9 :: u10 :: u11 :: u12 :: u13 :: u14 :: u15 :: u16 :: u17 :: u18 :: u19 :: u20 :: u21 :: u22 :: u23 :: u24 :: u25 :: u26 :: u27 :: u28 :: u29 :: u30 :: u31 :: u32 :: u33 :: u34 :: u35 :: u36 :: u37 :: u38 :: u39 :: u40 :: u41 :: u42 :: u43 :: u44 :: u45 :: u46 :: u47 :: u48 :: u49 :: u50 :: u51 :: u52 :: u53 :: u54 :: u55 :: u56 :: u57 :: u58 :: u59 :: u60 :: u61 :: u62 :: u63 :: u64 :: u65 :: u66 :: u67 :: u68 :: u69 :: u70 :: u71 :: u72 :: u73 :: u74 :: u75 :: u76 :: u77 :: u78 :: u79 :: u80 :: u81 :: u82 :: u83 :: u84 :: u85 :: u86 :: u87 :: u88 :: u89 :: u90 :: u91 :: u92 :: u93 :: u94 :: u95 :: u96 :: u97 :: u98 :: u99 :: u100 :: u101 :: u102 :: u103 :: u104 :: u105 :: u106 :: v107 :: v108 :: v109 :: v110 :: v111 :: v112 :: v113 :: v114 :: v115 :: v116 :: v117 :: v118 :: v119 :: v120 :: v121 :: v122 :: v123 :: v124 :: v125 :: v126 :: v127 :: v128 :: []), []⟩ w')
    (hR : Rd w p 1 (.slice (some ⟨b, o, none⟩) n c) n (B8 bs)) (hpm : P + m ≤ n) (hnm : n ≤ 2147483647) (hn0 : 0 < n) (hG : Blk w g 27 (hcells h sv xv)) (hgB : g < B) (hBw : B ≤ w.heap.size) (hO : Own w B 66 2 xv done.length (xcells done ds)) (hD : Ds w p done ds) (hpg : ∀ i, p i → i ≠ g ∧ i < B) (hdl : done.length ≤ 1000000) :
    Part Tryd.prog Tryd.f69 16 Q ⟨List.toArray (.pointer (some ⟨g, 0, none⟩) :: .slice (some ⟨b, o, none⟩) n c :: u2 :: u3 :: u4 :: .int .u8 i :: .int .i64 x6 :: .int .i64 x7 :: u8 :: u9 :: u10 :: u11 :: u12 :: u13 :: u14 :: u15 :: u16 :: u17 :: u18 :: u19 :: u20 :: u21 :: u22 :: u23 :: u24 :: u25 :: u26 :: u27 :: u28 :: u29 :: u30 :: u31 :: u32 :: u33 :: u34 :: u35 :: u36 :: u37 :: u38 :: u39 :: u40 :: u41 :: u42 :: u43 :: u44 :: u45 :: u46 :: u47 :: u48 :: u49 :: u50 :: u51 :: u52 :: u53 :: u54 :: u55 :: u56 :: u57 :: u58 :: u59 :: u60 :: u61 :: u62 :: u63 :: u64 :: u65 :: u66 :: u67 :: u68 :: u69 :: u70 :: u71 :: u72 :: u73 :: u74 :: u75 :: u76 :: u77 :: u78 :: u79 :: u80 :: u81 :: u82 :: u83 :: u84 :: u85 :: u86 :: u87 :: u88 :: u89 :: u90 :: u91 :: u92 :: u93 :: u94 :: u95 :: u96 :: u97 :: u98 :: u99 :: u100 :: u101 :: u102 :: u103 :: u104 :: u105 :: u106 :: u107 :: u108 :: u109 :: u110 :: u111 :: u112 :: u113 :: u114 :: u115 :: u116 :: u117 :: u118 :: u119 :: u120 :: u121 :: u122 :: u123 :: u124 :: u125 :: u126 :: u127 :: u128 :: []), []⟩ w := by
  subst h6 h7
  by_cases hcP : c = P
  · have hnc : n ≤ c := by
      obtain ⟨_, _, _, hv, h1, _⟩ := hR.lit (by omega)
      injection hv with _ _ e
      omega
    obtain rfl : m = 0 := by omega
    subst hcP
    obtain rfl : n = c := by omega
    exact sr_p16a w _ _ _ _ _ _ _ _ _ _ _ _ _ _ _ _ _ _ _ _ _ _ _ _ _ _ _ _ _ _ _ _ _ _ _ _ _ _ _ _ _ _ _ _ _ _ _ _ _ _ _ _ _ _ _ _ _ _ _ _ _ _ _ _ _ _ _ _ _ _ _ _ _ _ _ _ _ _ _ _ _ _ _ _ _ _ _ _ _ _ _ _ _ _ _ _ _ _ _ _ _ _ _ _ _ _ _ _ _ _ _ _ _ _ _ _ _ _ _ _ _ _ _ _ hQ hR (by omega) hnm hn0 hG hgB hBw hO hD hpg hdl
  · exact sr_p16b w _ _ _ _ _ _ _ _ _ _ _ _ _ _ _ _ _ _ _ _ _ _ _ _ _ _ _ _ _ _ _ _ _ _ _ _ _ _ _ _ _ _ _ _ _ _ _ _ _ _ _ _ _ _ _ _ _ _ _ _ _ _ _ _ _ _ _ _ _ _ _ _ _ _ _ _ _ _ _ _ _ _ _ _ _ _ _ _ _ _ _ _ _ _ _ _ _ _ _ _ _ _ _ _ _ _ _ _ _ _ _ _ _ _ _ _ _ _ _ _ _ _ _ _ hQ hR hpm hnm hn0 hG hgB hBw hO hD hpg hdl hcP

/-- What the reference's read of extensions leaves. -/
def SrPost (h : Hd) (sv : Value) (bs : List Int) (w : World) (g : Nat) (q : Nat → Prop) (e : Ending) (w' : World) : Prop :=
  (extsOf h.prof bs = none ∧ e = .returned (.bool false) ∧ (∃ A2 n2 c2, Blk w' g 27 (hcells h sv (.slice A2 n2 c2))) ∧ Keep w w' (· = g)) ∨
  (∃ ys xv, extsOf h.prof bs = some ys ∧ e = .returned (.bool true) ∧ Blk w' g 27 (hcells h sv xv) ∧ XR w' q xv ys ∧ Keep w w' (· = g))

def lenV : Value → Nat
  | .slice _ n _ => n
  | _ => 0
theorem rx_done {two : Bool} {bs r : List Int} {done d : List Ex} (h : rx two bs = (rx two r).map (done ++ ·)) {r' : List Int} (hr : rx two r = (rx two r').map (d ++ ·)) : rx two bs = (rx two r').map (done ++ d ++ ·) := by
  rw [h, hr]
  cases rx two r' <;> simp

set_option maxHeartbeats 3200000 in
theorem sread_walk {p : Nat → Prop} {bs : List Int} {n c g : Nat} {A : Option Addr} {sv : Value} {h : Hd} (w : World)
    (hR : Rd w p 1 (.slice A n c) n (B8 bs)) (hI : IsB bs) (hnm : n ≤ 500000) (hG : Blk w g 27 (hcells h sv (.slice none 0 0))) (hpg : ∀ i, p i → i ≠ g ∧ i < w.heap.size) :
    Calls Tryd.prog 69 #[.pointer (some ⟨g, 0, none⟩), .slice A n c] w (SrPost h sv bs w g (fun k => w.heap.size ≤ k ∨ p k)) := by
  have HPG := hide hpg
  have HI := hide hI
  have HG := hide hG
  have HR := hide hR
  have hl : bs.length = n := by have := hR.len; rwa [B8_len] at this
  have HL := hide hl
  have x9 := hG.cell 9 (v := .int .u16 h.prof) rfl
  have x10 := hG.cell 10 (v := .slice none 0 0) rfl
  have f10 := hG.free 10
  have hgw := hG.lt
  clear hpg hI hG hR hl
  go_enter Tryd.func69, Tryd.ntmps69
  go_upto_region 1 with fail
  go_cut [33] (fun c wx => c = .bool (!plainB h.prof) ∧ wx = w)
  case first =>
    have fin : ∀ (a : Bool), plainB h.prof = !a → Value.bool a = .bool (!plainB h.prof) := fun a e => by rw [e, Bool.not_not]
    have HF := hide fin
    clear fin
    by_cases h1 : 4097 ≤ h.prof
    · by_cases h2 : h.prof ≤ 4111
      · go_wp2_with fail
        go_meet
        exact ⟨HF.out _ (by simp [plainB]; omega), rfl⟩
      · by_cases h3 : h.prof = 49374
        · have s3 : (h.prof == 49374) = true := by simp [h3]
          go_wp2_with fail
          go_meet
          exact ⟨HF.out _ (by simp [plainB]; omega), rfl⟩
        · have s3 : (h.prof == 49374) = false := by simpa using h3
          by_cases h4 : h.prof = 49886
          · have s4 : (h.prof == 49886) = true := by simp [h4]
            go_wp2_with fail
            go_meet
            exact ⟨HF.out _ (by simp [plainB]; omega), rfl⟩
          · have s4 : (h.prof == 49886) = false := by simpa using h4
            go_wp2_with fail
            go_meet
            exact ⟨HF.out _ (by simp [plainB]; omega), rfl⟩
    · have s3 : (h.prof == 49374) = false := by simp; omega
      have s4 : (h.prof == 49886) = false := by simp; omega
      go_wp2_with fail
      go_meet
      exact ⟨HF.out _ (by simp [plainB]; omega), rfl⟩
  case rest =>
  obtain ⟨rfl, hwx⟩ := hcut
  subst hwx
  obtain ⟨w, hww⟩ : ∃ w, w = wc := ⟨_, rfl⟩
  subst hww
  cases hpl : plainB h.prof with
  | false =>
    have HPL := hide hpl
    clear hpl
    go_wp2_with fail
    (try go_ret)
    exact .inl ⟨by unfold extsOf; rw [if_pos HPL.out], rfl, ⟨_, _, _, HG.out⟩, Keep.refl _ _⟩
  | true =>
  have HPL := hide hpl
  clear hpl
  go_upto_region 3 with fail
  obtain ⟨ow, how⟩ : ∃ ow : Bool, ow = decide (h.prof ≠ 48862 ∧ h.prof ≠ 4096) := ⟨_, rfl⟩
  have HOW := hide how
  clear how
  go_cut [45] (fun c wx => c = .bool ow ∧ wx = w)
  case first =>
    by_cases h1 : h.prof = 48862
    · have s1 : (h.prof != 48862) = false := by simp [h1]
      have hd : decide (h.prof ≠ 48862 ∧ h.prof ≠ 4096) = false := by simp [h1]
      go_wp2_with fail
      go_meet
      exact ⟨by rw [HOW.out, hd], rfl⟩
    · have s1 : (h.prof != 48862) = true := by simpa using h1
      by_cases h2 : h.prof = 4096
      · have s2 : (h.prof != 4096) = false := by simp [h2]
        have hd : decide (h.prof ≠ 48862 ∧ h.prof ≠ 4096) = false := by simp [h2]
        go_wp2_with fail
        go_meet
        exact ⟨by rw [HOW.out, hd], rfl⟩
      · have s2 : (h.prof != 4096) = true := by simpa using h2
        have hd : decide (h.prof ≠ 48862 ∧ h.prof ≠ 4096) = true := by simp [h1, h2]
        go_wp2_with fail
        go_meet
        exact ⟨by rw [HOW.out, hd], rfl⟩
  case rest =>
  obtain ⟨rfl, hwx⟩ := hcut
  subst hwx
  obtain ⟨w, hww⟩ : ∃ w, w = wc := ⟨_, rfl⟩
  subst hww
  cases ow with
  | true =>
    have hown : h.prof ≠ 48862 ∧ h.prof ≠ 4096 := of_decide_eq_true HOW.out.symm
    have he : extsOf h.prof bs = some [⟨0, bs⟩] := by unfold extsOf; rw [HPL.out]; simp [hown.1, hown.2]
    have HEX := hide he
    clear he hown
    go_wp2_with fail
    (try go_ret)
    obtain ⟨w1, hw1⟩ : ∃ w1, w1 = w.setCell ⟨g, 10, none⟩ (.slice (some ⟨w.heap.size, 0, none⟩) 1 1) := ⟨_, rfl⟩
    have kst : Keep w w1 (· = g) := by subst hw1; exact Keep.set1 _ _ _ _
    have hz1 : w1.heap.size = w.heap.size := by subst hw1; simp
    have hb1 : Blk w1 g 27 (hcells h sv (.slice (some ⟨w.heap.size, 0, none⟩) 1 1)) := by subst hw1; exact HG.out.set_ 10 _
    have ho := Own.of_lit (e := 66) (sz := 2) w1 #[.int .u8 0, .slice A n c] 1 (by simp [maxLen]) rfl
    rw [← hw1]
    rw [hz1] at ho
    refine .inr ⟨_, _, HEX.out, rfl, hb1.alloc _, ?_, kst.alloc _⟩
    refine ⟨[.slice A n c], ⟨rfl, fun k x d h1 h2 => ?_⟩, ?_⟩
    · have hk : k = 0 := by
        have := (List.getElem?_eq_some_iff.1 h1).1
        simp at this
        exact this
      subst hk
      simp at h1 h2
      subst h1 h2
      have : Rd w p 1 (.slice A n c) bs.length (B8 bs) := by rw [HL.out]; exact HR.out
      exact ((this.keep kst (fun i _ hi e => (HPG.out i hi).1 e)).alloc _).mono (fun k _ hk => .inr hk)
    · exact ho.rdB.mono (fun k _ hk => .inl hk)
  | false =>
    have hown : ¬ (h.prof ≠ 48862 ∧ h.prof ≠ 4096) := of_decide_eq_false HOW.out.symm
    obtain ⟨two, htwo⟩ : ∃ two : Bool, two = decide (h.prof = 4096) := ⟨_, rfl⟩
    have hpr : h.prof = if two then 4096 else 48862 := by
      subst htwo
      by_cases q : h.prof = 4096
      · simp [q]
      · by_cases q2 : h.prof = 48862
        · simp [q2]
        · exact absurd ⟨q2, q⟩ hown
    have he : extsOf h.prof bs = rx two bs := by unfold extsOf; rw [HPL.out, htwo]; simp [hown]
    have HEX := hide he
    have HPR := hide hpr
    clear he htwo hown hpr
    go_wp2_with fail
    go_loopw [1, 5, 6, 7] (fun s1 s5 s6 s7 wr => ∃ (done : List Ex) (rem : List Int) (ds : List Value) (xv : Value), Rd wr p 1 s1 rem.length (B8 rem) ∧ rx two bs = (rx two rem).map (done ++ ·) ∧ IsB rem ∧ done.length + rem.length ≤ n ∧ Blk wr g 27 (hcells h sv xv) ∧ Own wr w.heap.size 66 2 xv done.length (xcells done ds) ∧ Ds wr p done ds ∧ Keep w wr (fun k => k = g ∨ w.heap.size ≤ k)) (fun s1 _ _ _ _ => lenV s1)
    case atStart => exact ⟨[], bs, [], .slice none 0 0, by rw [HL.out]; exact HR.out, by cases rx two bs <;> rfl, HI.out, by simp [HL.out], HG.out, Own.nil_ _ _ _ _, ⟨rfl, by simp⟩, Keep.refl _ _⟩
    case round =>
      obtain ⟨done, rem, ds, xv, hRr, hrx, hIr, hcnt, hGr, hOr, hDr, hKr⟩ := hrel
      obtain ⟨A9, c9, rfl⟩ := hOr.rd.shape
      have HRX := hide hrx
      have G1 := hide hGr
      have O1 := hide hOr
      have D1 := hide hDr
      have K1 := hide hKr
      have R1 := hide hRr
      have hKg : Keep w wr (· = g) := hKr.mono (fun i hi e => e.elim id (fun e => by omega))
      have KG := hide hKg
      have hdl : done.length ≤ 1000000 := by omega
      clear hrx hGr hOr hDr hKr
      cases rem with
      | nil =>
        obtain ⟨A2, c2, rfl⟩ := hRr.shape
        clear hRr
        go_wp2_with fail
        (try go_ret)
        refine .inr ⟨done, _, ?_, rfl, G1.out, ⟨ds, D1.out.mono (fun i _ hi => .inr hi), O1.out.rdB.mono (fun i _ hi => .inl hi)⟩, KG.out⟩
        rw [HEX.out, HRX.out, rx_nil]
        simp
      | cons z r =>
        obtain ⟨b, o, c2, rfl, q1, q2, q3, q4, q5⟩ := hRr.lit (by simp)
        have r0 := hIr z (by simp)
        have HIR := hide hIr
        have x9 := G1.out.cell 9 (v := .int .u16 h.prof) rfl
        have hgl := G1.out.lt
        have hbg := (HPG.out b q3).1
        have c0 : wr.cell? ⟨b, o, none⟩ = some (.int .u8 z) := q5 0 _ (by simp [B8])
        have HQ5 := hide q5
        have HC := hide hcnt
        obtain ⟨n2, hn2⟩ : ∃ n2, n2 = (z :: r).length := ⟨_, rfl⟩
        have HN2 := hide hn2
        have hn2r : n2 = r.length + 1 := by rw [hn2]; simp
        rw [← hn2] at R1 q1 hRr ⊢
        have hpos : (0 : Int) < (n2 : Int) := by omega
        have hpo2 : (1 : Int) ≤ (n2 : Int) := by omega
        have hnn2 : n2 ≤ 500000 := by rw [hn2]; omega
        have HNR := hide hn2r
        clear hRr hIr hcnt hn2 q5 hn2r
        by_cases h0 : z = 0
        · subst h0
          have hrz := rx_zero two r
          have hrx2 : rx two bs = (rx two r).map (done ++ ·) := by rw [HRX.out, hrz]
          have HRX2 := hide hrx2
          clear hrz hrx2
          by_cases hc1 : c2 = 1
          · subst hc1
            obtain rfl : n2 = 1 := by have := HNR.out; omega
            have rd := R1.out.sub 1 1 (by omega) (by omega) (some ⟨b, o, none⟩) (fun h => absurd rfl h) (by simp)
            have er : r = [] := List.eq_nil_of_length_eq_zero (by have := HNR.out; omega)
            subst er
            have RD := hide rd
            clear rd hpos hpo2 hnn2 q1 q2
            go_wp2_with fail
            go_roundw
            case rel => exact ⟨done, [], ds, _, RD.out, HRX2.out, (fun x hx => by cases hx), by have := HC.out; simp at this ⊢; omega, G1.out, O1.out, D1.out, K1.out⟩
            case measure => simp [lenV]
          · have rd := R1.out.sub 1 n2 (by omega) (by omega) (some ⟨b, o + 1, none⟩) (fun _ => rfl) (by simp)
            have e1 : (List.drop 1 ((0 : Int) :: r)).take (n2 - 1) = r := by rw [List.drop_one, List.tail_cons]; exact List.take_of_length_le (by have := HNR.out; omega)
            have e2 : n2 - 1 = r.length := by have := HNR.out; omega
            rw [e1] at rd
            have RD := hide rd
            have E2 := hide e2
            clear rd e1 e2
            go_wp2_with fail
            go_roundw
            case rel => exact ⟨done, r, ds, _, by rw [← E2.out]; exact RD.out, HRX2.out, (fun x hx => HIR.out x (by simp [hx])), by have := HC.out; simp at this ⊢; omega, G1.out, O1.out, D1.out, K1.out⟩
            case measure => simp only [lenV]; have := HNR.out; omega
        · have z0 : (z == 0) = false := by simpa using h0
          have c0m : ∀ m, (wr.drewN m).cell? ⟨b, o, none⟩ = some (.int .u8 z) := fun m => c0
          cases two with
          | false =>
            have hpr : h.prof = 48862 := HPR.out
            have s1 : (h.prof == 4096) = false := by simp [hpr]
            have s2 : (h.prof == 48862) = true := by simp [hpr]
            have hb := bit_15 z r0
            have hro := rx_one z r h0
            have HRO := hide hro
            clear hpr hro
            by_cases hlt : (n2 : Int) < 1 + (z % 16 + 1)
            · go_upto_region 9 with fail
              go_quiet (fail)
              go_wp2_with fail
              (try go_ret)
              exact .inl ⟨by rw [HEX.out, HRX.out, HRO.out, if_pos (by have := HNR.out; omega)]; rfl, rfl, ⟨_, _, _, G1.out⟩, KG.out.drewN _⟩
            · by_cases h15 : z / 16 = 15
              · have s3 : (z / 16 == 15) = true := by simp [h15]
                have H15 := hide h15
                clear h15
                go_upto_region 9 with fail
                go_quiet (fail)
                go_wp2_with fail
                (try go_ret)
                exact .inl ⟨by rw [HEX.out, HRX.out, HRO.out, if_pos (.inr (.inl H15.out))]; rfl, rfl, ⟨_, _, _, G1.out⟩, KG.out.drewN _⟩
              · have s3 : (z / 16 == 15) = false := by simpa using h15
                by_cases h00 : z / 16 = 0
                · have s4 : (z / 16 == 0) = true := by simp [h00]
                  have H00 := hide h00
                  clear h00
                  go_upto_region 9 with fail
                  go_quiet (fail)
                  go_wp2_with fail
                  (try go_ret)
                  exact .inl ⟨by rw [HEX.out, HRX.out, HRO.out, if_pos (.inr (.inr H00.out))]; rfl, rfl, ⟨_, _, _, G1.out⟩, KG.out.drewN _⟩
                · have s4 : (z / 16 == 0) = false := by simpa using h00
                  have hro2 : rx false (z :: r) = (rx false (List.drop (1 + ((z % 16).toNat + 1)) (z :: r))).map ([(⟨z / 16, (List.drop 1 (z :: r)).take ((z % 16).toNat + 1)⟩ : Ex)] ++ ·) := by
                    rw [HRO.out, if_neg (by have := HNR.out; omega), show 1 + ((z % 16).toNat + 1) = ((z % 16).toNat + 1) + 1 by omega, List.drop_succ_cons]
                    rfl
                  have HRO2 := hide hro2
                  clear hro2
                  go_upto_region 9 with fail
                  go_quiet (fail)
                  go_upto_region 16 with fail
                  have KQ := hide (fun m => (Keep.refl wr Nul).drewN m)
                  refine part_use (sr_p16i (B := w.heap.size) (done := done) (ds := ds) (h := h) (p := p) _ 1 ((z % 16).toNat + 1) (z % 16 + 1) 1 (by omega) (by omega) _ _ _ _ _ _ _ _ _ _ _ _ _ _ _ _ _ _ _ _ _ _ _ _ _ _ _ _ _ _ _ _ _ _ _ _ _ _ _ _ _ _ _ _ _ _ _ _ _ _ _ _ _ _ _ _ _ _ _ _ _ _ _ _ _ _ _ _ _ _ _ _ _ _ _ _ _ _ _ _ _ _ _ _ _ _ _ _ _ _ _ _ _ _ _ _ _ _ _ _ _ _ _ _ _ _ _ _ _ _ _ _ _ _ _ _ _ _ _ _ _ _ _ _ ?_ (R1.out.keep0 (KQ.out _)) (by have := HNR.out; omega) (by omega) (by omega) (G1.out.keep (KQ.out _) id) (by omega) (Nat.le_trans K1.out.size (KQ.out _).size) (O1.out.keep0 (KQ.out _)) (D1.out.keep0 (KQ.out _)) HPG.out hdl) rfl rfl (by assumption)
                  intro w' v107 v108 v109 v110 v111 v112 v113 v114 v115 v116 v117 v118 v119 v120 v121 v122 v123 v124 v125 v126 v127 v128 xv' d X hX0 hX g1 o1 d1 k1
                  have hob := fun q e => (O1.out.at_ q e).1
                  have k3 : Keep wr w' (fun k => k = g ∨ w.heap.size ≤ k) := ((KQ.out _).nul _).trans k1 (fun i _ e => e.elim .inl (fun e => .inr (hob i e)))
                  have k2 := K1.out.trans k3 (fun i _ e => e)
                  have e1 : (done ++ [(⟨z / 16, (List.drop 1 (z :: r)).take ((z % 16).toNat + 1)⟩ : Ex)]).length = done.length + 1 := by simp
                  have rd := (R1.out.keep k3 (fun i _ hi e => by have := HPG.out i hi; omega)).sub (1 + ((z % 16).toNat + 1)) n2 (by have := HNR.out; omega) (by omega) X hX hX0
                  have e3 : (List.drop (1 + ((z % 16).toNat + 1)) (z :: r)).length = n2 - (1 + ((z % 16).toNat + 1)) := by rw [List.length_drop]; have := HN2.out; omega
                  have e2 : (List.drop (1 + ((z % 16).toNat + 1)) (z :: r)).take (n2 - (1 + ((z % 16).toNat + 1))) = List.drop (1 + ((z % 16).toNat + 1)) (z :: r) := List.take_of_length_le (by omega)
                  rw [e2] at rd
                  have RD := hide (show Rd w' p 1 (.slice X (n2 - (1 + ((z % 16).toNat + 1))) (c2 - (1 + ((z % 16).toNat + 1)))) (List.drop (1 + ((z % 16).toNat + 1)) (z :: r)).length (B8 (List.drop (1 + ((z % 16).toNat + 1)) (z :: r))) by rw [e3]; exact rd)
                  have HRX2 := hide (rx_done HRX.out HRO2.out)
                  have G2 := hide g1
                  have O2 := hide (e1 ▸ o1)
                  have D2 := hide d1
                  have K2 := hide k2
                  have E3 := hide e3
                  clear rd e2 e3 g1 o1 d1 k1 k2 k3 e1 hob
                  go_roundw
                  case rel => exact ⟨_, _, _, _, _, _, _, _, _, _, _, _, _, _, _, _, _, _, _, _, _, _, _, _, _, _, _, _, _, _, _, _, _, _, _, _, _, _, _, _, _, _, _, _, _, _, _, _, _, _, _, _, _, _, _, _, _, _, _, _, _, _, _, _, _, _, _, _, _, _, _, _, _, _, _, _, _, _, _, _, _, _, ⟨_, _, _, xv', RD.out, HRX2.out, (fun x hx => HIR.out x (List.mem_of_mem_drop hx)), by have := HC.out; have := HN2.out; rw [E3.out]; simp only [List.length_append, List.length_cons, List.length_nil]; simp at *; omega, G2.out, O2.out, D2.out, K2.out⟩, rfl⟩
                  case measure => have := HNR.out; simp [lenV]; omega
          | true =>
            have hpr : h.prof = 4096 := HPR.out
            have s1 : (h.prof == 4096) = true := by simp [hpr]
            have s2 : (h.prof == 48862) = false := by simp [hpr]
            have hb := bit_15 z r0
            clear hpr
            by_cases hl2 : (n2 : Int) < 2
            · have er : r = [] := List.eq_nil_of_length_eq_zero (by have := HNR.out; omega)
              go_upto_region 9 with fail
              go_quiet (fail)
              go_wp2_with fail
              (try go_ret)
              exact .inl ⟨by rw [HEX.out, HRX.out, er, rx_two1 z h0]; rfl, rfl, ⟨_, _, _, G1.out⟩, KG.out.drewN _⟩
            · obtain ⟨y, r', hr'⟩ : ∃ y r', r = y :: r' := by
                cases r with
                | nil => exfalso; have := HNR.out; simp at this; omega
                | cons y r' => exact ⟨y, r', rfl⟩
              subst hr'
              have r1 := HIR.out y (by simp)
              have c1 : wr.cell? ⟨b, o + 1, none⟩ = some (.int .u8 y) := HQ5.out 1 _ (by simp [B8])
              have c1m : ∀ m, (wr.drewN m).cell? ⟨b, o + 1, none⟩ = some (.int .u8 y) := fun m => c1
              have hp2 : (1 : Int) < (n2 : Int) := by omega
              have hrt := rx_two z y r' h0
              have HRT := hide hrt
              have hl3 : r'.length + 2 = n2 := by have := HNR.out; simp at this; omega
              have HL3 := hide hl3
              clear hrt hl3
              by_cases hlt : (n2 : Int) < 2 + y
              · go_upto_region 9 with fail
                go_quiet (fail)
                go_upto_region 13 with fail
                go_quiet (fail)
                go_wp2_with fail
                (try go_ret)
                exact .inl ⟨by rw [HEX.out, HRX.out, HRT.out, if_pos (by have := HL3.out; omega)]; rfl, rfl, ⟨_, _, _, G1.out⟩, KG.out.drewN _⟩
              · have hro2 : rx true (z :: y :: r') = (rx true (List.drop (2 + y.toNat) (z :: y :: r'))).map ([(⟨z, (List.drop 2 (z :: y :: r')).take y.toNat⟩ : Ex)] ++ ·) := by
                  rw [HRT.out, if_neg (by have := HL3.out; omega), show 2 + y.toNat = y.toNat + 1 + 1 by omega, List.drop_succ_cons, List.drop_succ_cons]
                  rfl
                have HRO2 := hide hro2
                clear hro2
                go_upto_region 9 with fail
                go_quiet (fail)
                go_upto_region 13 with fail
                go_quiet (fail)
                go_upto_region 16 with fail
                have KQ := hide (fun m => (Keep.refl wr Nul).drewN m)
                refine part_use (sr_p16i (B := w.heap.size) (done := done) (ds := ds) (h := h) (p := p) _ 2 y.toNat y 2 (by omega) (by omega) _ _ _ _ _ _ _ _ _ _ _ _ _ _ _ _ _ _ _ _ _ _ _ _ _ _ _ _ _ _ _ _ _ _ _ _ _ _ _ _ _ _ _ _ _ _ _ _ _ _ _ _ _ _ _ _ _ _ _ _ _ _ _ _ _ _ _ _ _ _ _ _ _ _ _ _ _ _ _ _ _ _ _ _ _ _ _ _ _ _ _ _ _ _ _ _ _ _ _ _ _ _ _ _ _ _ _ _ _ _ _ _ _ _ _ _ _ _ _ _ _ _ _ _ ?_ (R1.out.keep0 (KQ.out _)) (by have := HL3.out; omega) (by omega) (by omega) (G1.out.keep (KQ.out _) id) (by omega) (Nat.le_trans K1.out.size (KQ.out _).size) (O1.out.keep0 (KQ.out _)) (D1.out.keep0 (KQ.out _)) HPG.out hdl) rfl rfl (by assumption)
                intro w' v107 v108 v109 v110 v111 v112 v113 v114 v115 v116 v117 v118 v119 v120 v121 v122 v123 v124 v125 v126 v127 v128 xv' d X hX0 hX g1 o1 d1 k1
                have hob := fun q e => (O1.out.at_ q e).1
                have k3 : Keep wr w' (fun k => k = g ∨ w.heap.size ≤ k) := ((KQ.out _).nul _).trans k1 (fun i _ e => e.elim .inl (fun e => .inr (hob i e)))
                have k2 := K1.out.trans k3 (fun i _ e => e)
                have e1 : (done ++ [(⟨z, (List.drop 2 (z :: y :: r')).take y.toNat⟩ : Ex)]).length = done.length + 1 := by simp
                have rd := (R1.out.keep k3 (fun i _ hi e => by have := HPG.out i hi; omega)).sub (2 + y.toNat) n2 (by have := HL3.out; omega) (by omega) X hX hX0
                have e3 : (List.drop (2 + y.toNat) (z :: y :: r')).length = n2 - (2 + y.toNat) := by rw [List.length_drop]; have := HN2.out; omega
                have e2 : (List.drop (2 + y.toNat) (z :: y :: r')).take (n2 - (2 + y.toNat)) = List.drop (2 + y.toNat) (z :: y :: r') := List.take_of_length_le (by omega)
                rw [e2] at rd
                have RD := hide (show Rd w' p 1 (.slice X (n2 - (2 + y.toNat)) (c2 - (2 + y.toNat))) (List.drop (2 + y.toNat) (z :: y :: r')).length (B8 (List.drop (2 + y.toNat) (z :: y :: r'))) by rw [e3]; exact rd)
                have HRX2 := hide (rx_done HRX.out HRO2.out)
                have G2 := hide g1
                have O2 := hide (e1 ▸ o1)
                have D2 := hide d1
                have K2 := hide k2
                have E3 := hide e3
                clear rd e2 e3 g1 o1 d1 k1 k2 k3 e1 hob
                go_roundw
                case rel => exact ⟨_, _, _, _, _, _, _, _, _, _, _, _, _, _, _, _, _, _, _, _, _, _, _, _, _, _, _, _, _, _, _, _, _, _, _, _, _, _, _, _, _, _, _, _, _, _, _, _, _, _, _, _, _, _, _, _, _, _, _, _, _, _, _, _, _, _, _, _, _, _, _, _, _, _, _, _, _, _, _, _, _, _, ⟨_, _, _, xv', RD.out, HRX2.out, (fun x hx => HIR.out x (List.mem_of_mem_drop hx)), by have := HC.out; have := HN2.out; rw [E3.out]; simp only [List.length_append, List.length_cons, List.length_nil]; simp at *; omega, G2.out, O2.out, D2.out, K2.out⟩, rfl⟩
                case measure => have := HL3.out; simp [lenV]; omega
end Go.Proofs.YtdmnflngafbobaaDoor
namespace Go.Proofs.YtdmnflngafbobaaDoor
open Go.RowKit
set_option linter.unusedVariables false
set_option linter.unusedSimpArgs false
set_option maxRecDepth 100000

set_option maxHeartbeats 1600000 in
theorem rh_r2 {h : Hd} {g n1 n2 c1 c2 : Nat} {A1 A2 : Option Addr} {post : Ending → World → Prop} {Q : Exit → Act → World → Prop} (hq : ∀ a w, bodyPost Tryd.prog Tryd.f30 post .ret a w → Q .ret a w) (w : World) (u0 u1 u3 u4 u5 u6 u7 u8 u9 u10 u11 u12 u13 u14 u15 u16 u17 u18 u19 u20 u21 u22 u23 u24 u25 u26 u27 u28 u29 u30 u31 u32 u33 u34 u35 u36 u37 u38 u39 u40 u41 u42 u43 u44 u45 u46 u47 u48 u49 u50 u51 u52 u53 u54 u55 u56 u57 u58 u59 u60 u61 u62 u63 u64 u65 u66 u67 u68 u69 u70 u71 u72 u73 u74 u75 u76 u77 u78 u79 u80 u81 u82 u83 u84 u85 u86 u87 u88 u89 u90 u91 u92 u93 u94 u95 u96 u97 u98 u99 u100 u101 u102 u103 u104 u105 u106 u107 u108 u109 u110 u111 u112 u113 u114 u115 u116 : Value) (hB : Blk w g 27 (hcells h (.slice A1 n1 c1) (.slice A2 n2 c2)))
    (hp : ∀ w', Keep w w' (· = g) → post (.returned (.tuple #[.agg (hcells h (.slice A1 n1 c1) (.slice A2 n2 c2)), .int .i64 0, .int .i64 1])) w') :
    Part Tryd.prog Tryd.f30 2 Q ⟨List.toArray (u0 :: u1 :: .pointer (some ⟨g, 0, none⟩) :: u3 :: u4 :: u5 :: u6 :: u7 :: u8 :: u9 :: u10 :: u11 :: u12 :: u13 :: u14 :: u15 :: u16 :: u17 :: u18 :: u19 :: u20 :: u21 :: u22 :: u23 :: u24 :: u25 :: u26 :: u27 :: u28 :: u29 :: u30 :: u31 :: u32 :: u33 :: u34 :: u35 :: u36 :: u37 :: u38 :: u39 :: u40 :: u41 :: u42 :: u43 :: u44 :: u45 :: u46 :: u47 :: u48 :: u49 :: u50 :: u51 :: u52 :: u53 :: u54 :: u55 :: u56 :: u57 :: u58 :: u59 :: u60 :: u61 :: u62 :: u63 :: u64 :: u65 :: u66 :: u67 :: u68 :: u69 :: u70 :: u71 :: u72 :: u73 :: u74 :: u75 :: u76 :: u77 :: u78 :: u79 :: u80 :: u81 :: u82 :: u83 :: u84 :: u85 :: u86 :: u87 :: u88 :: u89 :: u90 :: u91 :: u92 :: u93 :: u94 :: u95 :: u96 :: u97 :: u98 :: u99 :: u100 :: u101 :: u102 :: u103 :: u104 :: u105 :: u106 :: u107 :: u108 :: u109 :: u110 :: u111 :: u112 :: u113 :: u114 :: u115 :: u116 :: []), []⟩ w := by
  have HB := hide hB
  have HP := hide hp
  have HQ := hide hq
  obtain ⟨x0, x1, x2, x3, x4, x5, x6, x7, x8, x9, x10, x11⟩ := hc12 hB
  clear hB hp hq
  refine part_open (fun c hc K hK => ?_)
  conv at hc => rhs; whnf
  subst hc
  dsimp only [xOf, yOf] at hK ⊢
  go_wp2_with (refine wpList_stRow rfl _ _ rfl rfl rfl HB.out (by kernel_rfl) rfl (by simp [Value.oneCell']) ?_; intro w2 hb2 hk2; have HB2 := hide hb2; have HK2 := hide hk2; clear hb2 hk2)
  obtain ⟨y0, y1, y2, y3, y4, y5, y6, y7, y8, y9, y10, y11⟩ := hc12 (show Blk w2 g 27 (hcells h (.slice A1 n1 c1) (.slice A2 n2 c2)) from HB2.out)
  clear x0 x1 x2 x3 x4 x5 x6 x7 x8 x9 x10 x11
  refine HQ.out _ _ ?_
  refine bodyPost_ret (v := .tuple #[.agg (hcells h (.slice A1 n1 c1) (.slice A2 n2 c2)), .int .i64 0, .int .i64 1]) (by unfold hcells; simp [results, Tryd.results30, go_sem, y0, y1, y2, y3, y4, y5, y6, y7, y8, y9, y10, y11]) rfl ?_
  exact HP.out _ HK2.out

set_option maxHeartbeats 1600000 in
theorem rh_r5 {h : Hd} {g n1 n2 c1 c2 : Nat} {A1 A2 : Option Addr} {post : Ending → World → Prop} {Q : Exit → Act → World → Prop} (hq : ∀ a w, bodyPost Tryd.prog Tryd.f30 post .ret a w → Q .ret a w) (w : World) (u0 u1 u3 u4 u5 u6 u7 u8 u9 u10 u11 u12 u13 u14 u15 u16 u17 u18 u19 u20 u21 u22 u23 u24 u25 u26 u27 u28 u29 u30 u31 u32 u33 u34 u35 u36 u37 u38 u39 u40 u41 u42 u43 u44 u45 u46 u47 u48 u49 u50 u51 u52 u53 u54 u55 u56 u57 u58 u59 u60 u61 u62 u63 u64 u65 u66 u67 u68 u69 u70 u71 u72 u73 u74 u75 u76 u77 u78 u79 u80 u81 u82 u83 u84 u85 u86 u87 u88 u89 u90 u91 u92 u93 u94 u95 u96 u97 u98 u99 u100 u101 u102 u103 u104 u105 u106 u107 u108 u109 u110 u111 u112 u113 u114 u115 u116 : Value) (hB : Blk w g 27 (hcells h (.slice A1 n1 c1) (.slice A2 n2 c2)))
    (hp : ∀ w', Keep w w' (· = g) → post (.returned (.tuple #[.agg (hcells h (.slice A1 n1 c1) (.slice A2 n2 c2)), .int .i64 0, .int .i64 1])) w') :
    Part Tryd.prog Tryd.f30 5 Q ⟨List.toArray (u0 :: u1 :: .pointer (some ⟨g, 0, none⟩) :: u3 :: u4 :: u5 :: u6 :: u7 :: u8 :: u9 :: u10 :: u11 :: u12 :: u13 :: u14 :: u15 :: u16 :: u17 :: u18 :: u19 :: u20 :: u21 :: u22 :: u23 :: u24 :: u25 :: u26 :: u27 :: u28 :: u29 :: u30 :: u31 :: u32 :: u33 :: u34 :: u35 :: u36 :: u37 :: u38 :: u39 :: u40 :: u41 :: u42 :: u43 :: u44 :: u45 :: u46 :: u47 :: u48 :: u49 :: u50 :: u51 :: u52 :: u53 :: u54 :: u55 :: u56 :: u57 :: u58 :: u59 :: u60 :: u61 :: u62 :: u63 :: u64 :: u65 :: u66 :: u67 :: u68 :: u69 :: u70 :: u71 :: u72 :: u73 :: u74 :: u75 :: u76 :: u77 :: u78 :: u79 :: u80 :: u81 :: u82 :: u83 :: u84 :: u85 :: u86 :: u87 :: u88 :: u89 :: u90 :: u91 :: u92 :: u93 :: u94 :: u95 :: u96 :: u97 :: u98 :: u99 :: u100 :: u101 :: u102 :: u103 :: u104 :: u105 :: u106 :: u107 :: u108 :: u109 :: u110 :: u111 :: u112 :: u113 :: u114 :: u115 :: u116 :: []), []⟩ w := by
  have HB := hide hB
  have HP := hide hp
  have HQ := hide hq
  obtain ⟨x0, x1, x2, x3, x4, x5, x6, x7, x8, x9, x10, x11⟩ := hc12 hB
  clear hB hp hq
  refine part_open (fun c hc K hK => ?_)
  conv at hc => rhs; whnf
  subst hc
  dsimp only [xOf, yOf] at hK ⊢
  go_wp2_with (refine wpList_stRow rfl _ _ rfl rfl rfl HB.out (by kernel_rfl) rfl (by simp [Value.oneCell']) ?_; intro w2 hb2 hk2; have HB2 := hide hb2; have HK2 := hide hk2; clear hb2 hk2)
  obtain ⟨y0, y1, y2, y3, y4, y5, y6, y7, y8, y9, y10, y11⟩ := hc12 (show Blk w2 g 27 (hcells h (.slice A1 n1 c1) (.slice A2 n2 c2)) from HB2.out)
  clear x0 x1 x2 x3 x4 x5 x6 x7 x8 x9 x10 x11
  refine HQ.out _ _ ?_
  refine bodyPost_ret (v := .tuple #[.agg (hcells h (.slice A1 n1 c1) (.slice A2 n2 c2)), .int .i64 0, .int .i64 1]) (by unfold hcells; simp [results, Tryd.results30, go_sem, y0, y1, y2, y3, y4, y5, y6, y7, y8, y9, y10, y11]) rfl ?_
  exact HP.out _ HK2.out

set_option maxHeartbeats 1600000 in
theorem rh_r12 {h : Hd} {g n1 n2 c1 c2 : Nat} {A1 A2 : Option Addr} {post : Ending → World → Prop} {Q : Exit → Act → World → Prop} (hq : ∀ a w, bodyPost Tryd.prog Tryd.f30 post .ret a w → Q .ret a w) (w : World) (u0 u1 u3 u4 u5 u6 u7 u8 u9 u10 u11 u12 u13 u14 u15 u16 u17 u18 u19 u20 u21 u22 u23 u24 u25 u26 u27 u28 u29 u30 u31 u32 u33 u34 u35 u36 u37 u38 u39 u40 u41 u42 u43 u44 u45 u46 u47 u48 u49 u50 u51 u52 u53 u54 u55 u56 u57 u58 u59 u60 u61 u62 u63 u64 u65 u66 u67 u68 u69 u70 u71 u72 u73 u74 u75 u76 u77 u78 u79 u80 u81 u82 u83 u84 u85 u86 u87 u88 u89 u90 u91 u92 u93 u94 u95 u96 u97 u98 u99 u100 u101 u102 u103 u104 u105 u106 u107 u108 u109 u110 u111 u112 u113 u114 u115 u116 : Value) (hB : Blk w g 27 (hcells h (.slice A1 n1 c1) (.slice A2 n2 c2)))
    (hp : ∀ w', Keep w w' (· = g) → post (.returned (.tuple #[.agg (hcells h (.slice A1 n1 c1) (.slice A2 n2 c2)), .int .i64 0, .int .i64 2])) w') :
    Part Tryd.prog Tryd.f30 12 Q ⟨List.toArray (u0 :: u1 :: .pointer (some ⟨g, 0, none⟩) :: u3 :: u4 :: u5 :: u6 :: u7 :: u8 :: u9 :: u10 :: u11 :: u12 :: u13 :: u14 :: u15 :: u16 :: u17 :: u18 :: u19 :: u20 :: u21 :: u22 :: u23 :: u24 :: u25 :: u26 :: u27 :: u28 :: u29 :: u30 :: u31 :: u32 :: u33 :: u34 :: u35 :: u36 :: u37 :: u38 :: u39 :: u40 :: u41 :: u42 :: u43 :: u44 :: u45 :: u46 :: u47 :: u48 :: u49 :: u50 :: u51 :: u52 :: u53 :: u54 :: u55 :: u56 :: u57 :: u58 :: u59 :: u60 :: u61 :: u62 :: u63 :: u64 :: u65 :: u66 :: u67 :: u68 :: u69 :: u70 :: u71 :: u72 :: u73 :: u74 :: u75 :: u76 :: u77 :: u78 :: u79 :: u80 :: u81 :: u82 :: u83 :: u84 :: u85 :: u86 :: u87 :: u88 :: u89 :: u90 :: u91 :: u92 :: u93 :: u94 :: u95 :: u96 :: u97 :: u98 :: u99 :: u100 :: u101 :: u102 :: u103 :: u104 :: u105 :: u106 :: u107 :: u108 :: u109 :: u110 :: u111 :: u112 :: u113 :: u114 :: u115 :: u116 :: []), []⟩ w := by
  have HB := hide hB
  have HP := hide hp
  have HQ := hide hq
  obtain ⟨x0, x1, x2, x3, x4, x5, x6, x7, x8, x9, x10, x11⟩ := hc12 hB
  clear hB hp hq
  refine part_open (fun c hc K hK => ?_)
  conv at hc => rhs; whnf
  subst hc
  dsimp only [xOf, yOf] at hK ⊢
  go_wp2_with (refine wpList_stRow rfl _ _ rfl rfl rfl HB.out (by kernel_rfl) rfl (by simp [Value.oneCell']) ?_; intro w2 hb2 hk2; have HB2 := hide hb2; have HK2 := hide hk2; clear hb2 hk2)
  obtain ⟨y0, y1, y2, y3, y4, y5, y6, y7, y8, y9, y10, y11⟩ := hc12 (show Blk w2 g 27 (hcells h (.slice A1 n1 c1) (.slice A2 n2 c2)) from HB2.out)
  clear x0 x1 x2 x3 x4 x5 x6 x7 x8 x9 x10 x11
  refine HQ.out _ _ ?_
  refine bodyPost_ret (v := .tuple #[.agg (hcells h (.slice A1 n1 c1) (.slice A2 n2 c2)), .int .i64 0, .int .i64 2]) (by unfold hcells; simp [results, Tryd.results30, go_sem, y0, y1, y2, y3, y4, y5, y6, y7, y8, y9, y10, y11]) rfl ?_
  exact HP.out _ HK2.out

set_option maxHeartbeats 1600000 in
theorem rh_r15 {h : Hd} {g n1 n2 c1 c2 : Nat} {A1 A2 : Option Addr} {post : Ending → World → Prop} {Q : Exit → Act → World → Prop} (hq : ∀ a w, bodyPost Tryd.prog Tryd.f30 post .ret a w → Q .ret a w) (w : World) (u0 u1 u3 u4 u5 u6 u7 u8 u9 u10 u11 u12 u13 u14 u15 u16 u17 u18 u19 u20 u21 u22 u23 u24 u25 u26 u27 u28 u29 u30 u31 u32 u33 u34 u35 u36 u37 u38 u39 u40 u41 u42 u43 u44 u45 u46 u47 u48 u49 u50 u51 u52 u53 u54 u55 u56 u57 u58 u59 u60 u61 u62 u63 u64 u65 u66 u67 u68 u69 u70 u71 u72 u73 u74 u75 u76 u77 u78 u79 u80 u81 u82 u83 u84 u85 u86 u87 u88 u89 u90 u91 u92 u93 u94 u95 u96 u97 u98 u99 u100 u101 u102 u103 u104 u105 u106 u107 u108 u109 u110 u111 u112 u113 u114 u115 u116 : Value) (hB : Blk w g 27 (hcells h (.slice A1 n1 c1) (.slice A2 n2 c2)))
    (hp : ∀ w', Keep w w' (· = g) → post (.returned (.tuple #[.agg (hcells h (.slice A1 n1 c1) (.slice A2 n2 c2)), .int .i64 0, .int .i64 1])) w') :
    Part Tryd.prog Tryd.f30 15 Q ⟨List.toArray (u0 :: u1 :: .pointer (some ⟨g, 0, none⟩) :: u3 :: u4 :: u5 :: u6 :: u7 :: u8 :: u9 :: u10 :: u11 :: u12 :: u13 :: u14 :: u15 :: u16 :: u17 :: u18 :: u19 :: u20 :: u21 :: u22 :: u23 :: u24 :: u25 :: u26 :: u27 :: u28 :: u29 :: u30 :: u31 :: u32 :: u33 :: u34 :: u35 :: u36 :: u37 :: u38 :: u39 :: u40 :: u41 :: u42 :: u43 :: u44 :: u45 :: u46 :: u47 :: u48 :: u49 :: u50 :: u51 :: u52 :: u53 :: u54 :: u55 :: u56 :: u57 :: u58 :: u59 :: u60 :: u61 :: u62 :: u63 :: u64 :: u65 :: u66 :: u67 :: u68 :: u69 :: u70 :: u71 :: u72 :: u73 :: u74 :: u75 :: u76 :: u77 :: u78 :: u79 :: u80 :: u81 :: u82 :: u83 :: u84 :: u85 :: u86 :: u87 :: u88 :: u89 :: u90 :: u91 :: u92 :: u93 :: u94 :: u95 :: u96 :: u97 :: u98 :: u99 :: u100 :: u101 :: u102 :: u103 :: u104 :: u105 :: u106 :: u107 :: u108 :: u109 :: u110 :: u111 :: u112 :: u113 :: u114 :: u115 :: u116 :: []), []⟩ w := by
  have HB := hide hB
  have HP := hide hp
  have HQ := hide hq
  obtain ⟨x0, x1, x2, x3, x4, x5, x6, x7, x8, x9, x10, x11⟩ := hc12 hB
  clear hB hp hq
  refine part_open (fun c hc K hK => ?_)
  conv at hc => rhs; whnf
  subst hc
  dsimp only [xOf, yOf] at hK ⊢
  go_wp2_with (refine wpList_stRow rfl _ _ rfl rfl rfl HB.out (by kernel_rfl) rfl (by simp [Value.oneCell']) ?_; intro w2 hb2 hk2; have HB2 := hide hb2; have HK2 := hide hk2; clear hb2 hk2)
  obtain ⟨y0, y1, y2, y3, y4, y5, y6, y7, y8, y9, y10, y11⟩ := hc12 (show Blk w2 g 27 (hcells h (.slice A1 n1 c1) (.slice A2 n2 c2)) from HB2.out)
  clear x0 x1 x2 x3 x4 x5 x6 x7 x8 x9 x10 x11
  refine HQ.out _ _ ?_
  refine bodyPost_ret (v := .tuple #[.agg (hcells h (.slice A1 n1 c1) (.slice A2 n2 c2)), .int .i64 0, .int .i64 1]) (by unfold hcells; simp [results, Tryd.results30, go_sem, y0, y1, y2, y3, y4, y5, y6, y7, y8, y9, y10, y11]) rfl ?_
  exact HP.out _ HK2.out

set_option maxHeartbeats 1600000 in
theorem rh_r20 {h : Hd} {g n1 n2 c1 c2 : Nat} {A1 A2 : Option Addr} {post : Ending → World → Prop} {Q : Exit → Act → World → Prop} (hq : ∀ a w, bodyPost Tryd.prog Tryd.f30 post .ret a w → Q .ret a w) (w : World) (u0 u1 u3 u4 u5 u6 u7 u8 u9 u10 u11 u12 u13 u14 u15 u16 u17 u18 u19 u20 u21 u22 u23 u24 u25 u26 u27 u28 u29 u30 u31 u32 u33 u34 u35 u36 u37 u38 u39 u40 u41 u42 u43 u44 u45 u46 u47 u48 u49 u50 u51 u52 u53 u54 u55 u56 u57 u58 u59 u60 u61 u62 u63 u64 u65 u66 u67 u68 u69 u70 u71 u72 u73 u74 u75 u76 u77 u78 u79 u80 u81 u82 u83 u84 u85 u86 u87 u88 u89 u90 u91 u92 u93 u94 u95 u96 u97 u98 u99 u100 u101 u102 u103 u104 u105 u106 u107 u108 u109 u110 u111 u112 u113 u114 u115 u116 : Value) (hB : Blk w g 27 (hcells h (.slice A1 n1 c1) (.slice A2 n2 c2)))
    (hp : ∀ w', Keep w w' (· = g) → post (.returned (.tuple #[.agg (hcells h (.slice A1 n1 c1) (.slice A2 n2 c2)), .int .i64 0, .int .i64 1])) w') :
    Part Tryd.prog Tryd.f30 20 Q ⟨List.toArray (u0 :: u1 :: .pointer (some ⟨g, 0, none⟩) :: u3 :: u4 :: u5 :: u6 :: u7 :: u8 :: u9 :: u10 :: u11 :: u12 :: u13 :: u14 :: u15 :: u16 :: u17 :: u18 :: u19 :: u20 :: u21 :: u22 :: u23 :: u24 :: u25 :: u26 :: u27 :: u28 :: u29 :: u30 :: u31 :: u32 :: u33 :: u34 :: u35 :: u36 :: u37 :: u38 :: u39 :: u40 :: u41 :: u42 :: u43 :: u44 :: u45 :: u46 :: u47 :: u48 :: u49 :: u50 :: u51 :: u52 :: u53 :: u54 :: u55 :: u56 :: u57 :: u58 :: u59 :: u60 :: u61 :: u62 :: u63 :: u64 :: u65 :: u66 :: u67 :: u68 :: u69 :: u70 :: u71 :: u72 :: u73 :: u74 :: u75 :: u76 :: u77 :: u78 :: u79 :: u80 :: u81 :: u82 :: u83 :: u84 :: u85 :: u86 :: u87 :: u88 :: u89 :: u90 :: u91 :: u92 :: u93 :: u94 :: u95 :: u96 :: u97 :: u98 :: u99 :: u100 :: u101 :: u102 :: u103 :: u104 :: u105 :: u106 :: u107 :: u108 :: u109 :: u110 :: u111 :: u112 :: u113 :: u114 :: u115 :: u116 :: []), []⟩ w := by
  have HB := hide hB
  have HP := hide hp
  have HQ := hide hq
  obtain ⟨x0, x1, x2, x3, x4, x5, x6, x7, x8, x9, x10, x11⟩ := hc12 hB
  clear hB hp hq
  refine part_open (fun c hc K hK => ?_)
  conv at hc => rhs; whnf
  subst hc
  dsimp only [xOf, yOf] at hK ⊢
  go_wp2_with (refine wpList_stRow rfl _ _ rfl rfl rfl HB.out (by kernel_rfl) rfl (by simp [Value.oneCell']) ?_; intro w2 hb2 hk2; have HB2 := hide hb2; have HK2 := hide hk2; clear hb2 hk2)
  obtain ⟨y0, y1, y2, y3, y4, y5, y6, y7, y8, y9, y10, y11⟩ := hc12 (show Blk w2 g 27 (hcells h (.slice A1 n1 c1) (.slice A2 n2 c2)) from HB2.out)
  clear x0 x1 x2 x3 x4 x5 x6 x7 x8 x9 x10 x11
  refine HQ.out _ _ ?_
  refine bodyPost_ret (v := .tuple #[.agg (hcells h (.slice A1 n1 c1) (.slice A2 n2 c2)), .int .i64 0, .int .i64 1]) (by unfold hcells; simp [results, Tryd.results30, go_sem, y0, y1, y2, y3, y4, y5, y6, y7, y8, y9, y10, y11]) rfl ?_
  exact HP.out _ HK2.out

set_option maxHeartbeats 1600000 in
theorem rh_r22 {h : Hd} {g n1 n2 c1 c2 : Nat} {A1 A2 : Option Addr} {post : Ending → World → Prop} {Q : Exit → Act → World → Prop} (hq : ∀ a w, bodyPost Tryd.prog Tryd.f30 post .ret a w → Q .ret a w) (w : World) (u0 u1 u3 u4 u5 u6 u7 u8 u9 u10 u11 u12 u13 u14 u15 u16 u17 u18 u19 u20 u21 u22 u23 u24 u25 u26 u27 u28 u29 u30 u31 u32 u33 u34 u35 u36 u37 u38 u39 u40 u41 u42 u43 u44 u45 u46 u47 u48 u49 u50 u51 u52 u53 u54 u55 u56 u57 u58 u59 u60 u61 u62 u63 u64 u65 u66 u67 u68 u69 u70 u71 u72 u73 u74 u75 u76 u77 u78 u79 u80 u81 u82 u83 u84 u85 u86 u87 u88 u89 u90 u91 u92 u93 u94 u95 u96 u97 u98 u99 u100 u101 u102 u103 u104 u105 u106 u107 u108 u109 u110 u111 u112 u113 u114 u115 u116 : Value) (hB : Blk w g 27 (hcells h (.slice A1 n1 c1) (.slice A2 n2 c2)))
    (hp : ∀ w', Keep w w' (· = g) → post (.returned (.tuple #[.agg (hcells h (.slice A1 n1 c1) (.slice A2 n2 c2)), .int .i64 0, .int .i64 2])) w') :
    Part Tryd.prog Tryd.f30 22 Q ⟨List.toArray (u0 :: u1 :: .pointer (some ⟨g, 0, none⟩) :: u3 :: u4 :: u5 :: u6 :: u7 :: u8 :: u9 :: u10 :: u11 :: u12 :: u13 :: u14 :: u15 :: u16 :: u17 :: u18 :: u19 :: u20 :: u21 :: u22 :: u23 :: u24 :: u25 :: u26 :: u27 :: u28 :: u29 :: u30 :: u31 :: u32 :: u33 :: u34 :: u35 :: u36 :: u37 :: u38 :: u39 :: u40 :: u41 :: u42 :: u43 :: u44 :: u45 :: u46 :: u47 :: u48 :: u49 :: u50 :: u51 :: u52 :: u53 :: u54 :: u55 :: u56 :: u57 :: u58 :: u59 :: u60 :: u61 :: u62 :: u63 :: u64 :: u65 :: u66 :: u67 :: u68 :: u69 :: u70 :: u71 :: u72 :: u73 :: u74 :: u75 :: u76 :: u77 :: u78 :: u79 :: u80 :: u81 :: u82 :: u83 :: u84 :: u85 :: u86 :: u87 :: u88 :: u89 :: u90 :: u91 :: u92 :: u93 :: u94 :: u95 :: u96 :: u97 :: u98 :: u99 :: u100 :: u101 :: u102 :: u103 :: u104 :: u105 :: u106 :: u107 :: u108 :: u109 :: u110 :: u111 :: u112 :: u113 :: u114 :: u115 :: u116 :: []), []⟩ w := by
  have HB := hide hB
  have HP := hide hp
  have HQ := hide hq
  obtain ⟨x0, x1, x2, x3, x4, x5, x6, x7, x8, x9, x10, x11⟩ := hc12 hB
  clear hB hp hq
  refine part_open (fun c hc K hK => ?_)
  conv at hc => rhs; whnf
  subst hc
  dsimp only [xOf, yOf] at hK ⊢
  go_wp2_with (refine wpList_stRow rfl _ _ rfl rfl rfl HB.out (by kernel_rfl) rfl (by simp [Value.oneCell']) ?_; intro w2 hb2 hk2; have HB2 := hide hb2; have HK2 := hide hk2; clear hb2 hk2)
  obtain ⟨y0, y1, y2, y3, y4, y5, y6, y7, y8, y9, y10, y11⟩ := hc12 (show Blk w2 g 27 (hcells h (.slice A1 n1 c1) (.slice A2 n2 c2)) from HB2.out)
  clear x0 x1 x2 x3 x4 x5 x6 x7 x8 x9 x10 x11
  refine HQ.out _ _ ?_
  refine bodyPost_ret (v := .tuple #[.agg (hcells h (.slice A1 n1 c1) (.slice A2 n2 c2)), .int .i64 0, .int .i64 2]) (by unfold hcells; simp [results, Tryd.results30, go_sem, y0, y1, y2, y3, y4, y5, y6, y7, y8, y9, y10, y11]) rfl ?_
  exact HP.out _ HK2.out

set_option maxHeartbeats 1600000 in
theorem rh_r24 {h : Hd} {g n1 n2 c1 c2 : Nat} {A1 A2 : Option Addr} {m : Int} {post : Ending → World → Prop} {Q : Exit → Act → World → Prop} (hq : ∀ a w, bodyPost Tryd.prog Tryd.f30 post .ret a w → Q .ret a w) (w : World) (u0 u1 u4 u5 u6 u7 u8 u9 u10 u11 u12 u13 u14 u15 u16 u17 u18 u19 u20 u21 u22 u23 u24 u25 u26 u27 u28 u29 u30 u31 u32 u33 u34 u35 u36 u37 u38 u39 u40 u41 u42 u43 u44 u45 u46 u47 u48 u49 u50 u51 u52 u53 u54 u55 u56 u57 u58 u59 u60 u61 u62 u63 u64 u65 u66 u67 u68 u69 u70 u71 u72 u73 u74 u75 u76 u77 u78 u79 u80 u81 u82 u83 u84 u85 u86 u87 u88 u89 u90 u91 u92 u93 u94 u95 u96 u97 u98 u99 u100 u101 u102 u103 u104 u105 u106 u107 u108 u109 u110 u111 u112 u113 u114 u115 u116 : Value) (hB : Blk w g 27 (hcells h (.slice A1 n1 c1) (.slice A2 n2 c2)))
    (hp : ∀ w', Keep w w' (· = g) → post (.returned (.tuple #[.agg (hcells h (.slice A1 n1 c1) (.slice A2 n2 c2)), .int .i64 m, .int .i64 0])) w') :
    Part Tryd.prog Tryd.f30 24 Q ⟨List.toArray (u0 :: u1 :: .pointer (some ⟨g, 0, none⟩) :: .int .i64 m :: u4 :: u5 :: u6 :: u7 :: u8 :: u9 :: u10 :: u11 :: u12 :: u13 :: u14 :: u15 :: u16 :: u17 :: u18 :: u19 :: u20 :: u21 :: u22 :: u23 :: u24 :: u25 :: u26 :: u27 :: u28 :: u29 :: u30 :: u31 :: u32 :: u33 :: u34 :: u35 :: u36 :: u37 :: u38 :: u39 :: u40 :: u41 :: u42 :: u43 :: u44 :: u45 :: u46 :: u47 :: u48 :: u49 :: u50 :: u51 :: u52 :: u53 :: u54 :: u55 :: u56 :: u57 :: u58 :: u59 :: u60 :: u61 :: u62 :: u63 :: u64 :: u65 :: u66 :: u67 :: u68 :: u69 :: u70 :: u71 :: u72 :: u73 :: u74 :: u75 :: u76 :: u77 :: u78 :: u79 :: u80 :: u81 :: u82 :: u83 :: u84 :: u85 :: u86 :: u87 :: u88 :: u89 :: u90 :: u91 :: u92 :: u93 :: u94 :: u95 :: u96 :: u97 :: u98 :: u99 :: u100 :: u101 :: u102 :: u103 :: u104 :: u105 :: u106 :: u107 :: u108 :: u109 :: u110 :: u111 :: u112 :: u113 :: u114 :: u115 :: u116 :: []), []⟩ w := by
  have HB := hide hB
  have HP := hide hp
  have HQ := hide hq
  obtain ⟨x0, x1, x2, x3, x4, x5, x6, x7, x8, x9, x10, x11⟩ := hc12 hB
  clear hB hp hq
  refine part_open (fun c hc K hK => ?_)
  conv at hc => rhs; whnf
  subst hc
  dsimp only [xOf, yOf] at hK ⊢
  go_wp2_with (refine wpList_stRow rfl _ _ rfl rfl rfl HB.out (by kernel_rfl) rfl (by simp [Value.oneCell']) ?_; intro w2 hb2 hk2; have HB2 := hide hb2; have HK2 := hide hk2; clear hb2 hk2)
  obtain ⟨y0, y1, y2, y3, y4, y5, y6, y7, y8, y9, y10, y11⟩ := hc12 (show Blk w2 g 27 (hcells h (.slice A1 n1 c1) (.slice A2 n2 c2)) from HB2.out)
  clear x0 x1 x2 x3 x4 x5 x6 x7 x8 x9 x10 x11
  refine HQ.out _ _ ?_
  refine bodyPost_ret (v := .tuple #[.agg (hcells h (.slice A1 n1 c1) (.slice A2 n2 c2)), .int .i64 m, .int .i64 0]) (by unfold hcells; simp [results, Tryd.results30, go_sem, y0, y1, y2, y3, y4, y5, y6, y7, y8, y9, y10, y11]) rfl ?_
  exact HP.out _ HK2.out
end Go.Proofs.YtdmnflngafbobaaDoor
namespace Go.Proofs.YtdmnflngafbobaaDoor
open Go.RowKit
set_option linter.unusedVariables false
set_option linter.unusedSimpArgs false
set_option maxRecDepth 100000

/-- The header that the first twelve bytes give. -/
def hdF (bs : List Int) : Hd := { headR bs with srcs := [] }
theorem bit_32 (x : Int) (h : 0 ≤ x ∧ x < 256) : (bits .and .u8 x 32 != 0) = decide (x / 32 % 2 = 1) := by
  have all : ∀ n : Nat, n < 256 → (bits .and .u8 (n : Int) 32 != 0) = decide ((n : Int) / 32 % 2 = 1) := by decide +kernel
  obtain ⟨n, rfl⟩ := Int.eq_ofNat_of_zero_le h.1
  exact all n (by omega)
theorem bit_16 (x : Int) (h : 0 ≤ x ∧ x < 256) : (bits .and .u8 x 16 != 0) = decide (x / 16 % 2 = 1) := by
  have all : ∀ n : Nat, n < 256 → (bits .and .u8 (n : Int) 16 != 0) = decide ((n : Int) / 16 % 2 = 1) := by decide +kernel
  obtain ⟨n, rfl⟩ := Int.eq_ofNat_of_zero_le h.1
  exact all n (by omega)
theorem bit_128 (x : Int) (h : 0 ≤ x ∧ x < 256) : (bits .and .u8 x 128 != 0) = decide (x / 128 = 1) := by
  have all : ∀ n : Nat, n < 256 → (bits .and .u8 (n : Int) 128 != 0) = decide ((n : Int) / 128 = 1) := by decide +kernel
  obtain ⟨n, rfl⟩ := Int.eq_ofNat_of_zero_le h.1
  exact all n (by omega)

set_option maxHeartbeats 1600000 in
theorem rh_p6 {p : Nat → Prop} {bs : List Int} {n c b o g : Nat} {Q : Exit → Act → World → Prop} (w : World) (u1 u3 u4 u5 u6 u7 u8 u9 u10 u11 u12 u13 u14 u15 u16 u17 u18 u19 u20 u21 u22 u23 u24 u25 u26 u27 u28 u29 u30 u31 u32 u33 u34 u35 u36 u37 u38 u39 u40 u41 u42 u43 u44 u45 u46 u47 u48 u49 u50 u51 u52 u53 u54 u55 u56 u57 u58 u59 u60 u61 u62 u63 u64 u65 u66 u67 u68 u69 u70 u71 u72 u73 u74 u75 u76 u77 u78 u79 u80 u81 u82 u83 u84 u85 u86 u87 u88 u89 u90 u91 u92 u93 u94 u95 u96 u97 u98 u99 u100 u101 u102 u103 u104 u105 u106 u107 u108 u109 u110 u111 u112 u113 u114 u115 u116 : Value)
    (hQ : ∀ (w' : World) (v23 v24 v25 v26 v27 v28 v29 v30 v31 v32 v33 v34 v35 v36 v37 v38 v39 v40 v41 v42 v43 v44 v45 v46 v47 v48 v49 v50 v51 v52 v53 v54 v55 : Value), Blk w' g 27 (hcells (hdF bs) (.slice none 0 0) (.slice none 0 0)) → Keep w w' (· = g) → (yOf (fromR Tryd.f30 6)).wp Tryd.prog Q ⟨List.toArray (.slice (some ⟨b, o, none⟩) n c :: u1 :: .pointer (some ⟨g, 0, none⟩) :: u3 :: u4 :: u5 :: u6 :: u7 :: u8 :: u9 :: u10 :: u11 :: u12 :: u13 :: u14 :: u15 :: u16 :: u17 :: u18 :: u19 :: u20 :: u21 :: u22 :: v23 :: v24 :: v25 :: v26 :: v27 :: v28 :: v29 :: v30 :: v31 :: v32 :: v33 :: v34 :: v35 :: v36 :: v37 :: v38 :: v39 :: v40 :: v41 :: v42 :: v43 :: v44 :: v45 :: v46 :: v47 :: v48 :: v49 :: v50 :: v51 :: v52 :: v53 :: v54 :: v55 :: u56 :: u57 :: u58 :: u59 :: u60 :: u61 :: u62 :: u63 :: u64 :: u65 :: u66 :: u67 :: u68 :: u69 :: u70 :: u71 :: u72 :: u73 :: u74 :: u75 :: u76 :: u77 :: u78 :: u79 :: u80 :: u81 :: u82 :: u83 :: u84 :: u85 :: u86 :: u87 :: u88 :: u89 :: u90 :: u91 :: u92 :: u93 :: u94 :: u95 :: u96 :: u97 :: u98 :: u99 :: u100 :: u101 :: u102 :: u103 :: u104 :: u105 :: u106 :: u107 :: u108 :: u109 :: u110 :: u111 :: u112 :: u113 :: u114 :: u115 :: u116 :: []), []⟩ w')
    (hR : Rd w p 1 (.slice (some ⟨b, o, none⟩) n c) n (B8 bs)) (hI : IsB bs) (hn : 12 ≤ n) (hB : Blk w g 27 (hcells hd0 (.slice none 0 0) (.slice none 0 0))) (hpg : ∀ i, p i → i ≠ g) :
    Part Tryd.prog Tryd.f30 6 Q ⟨List.toArray (.slice (some ⟨b, o, none⟩) n c :: u1 :: .pointer (some ⟨g, 0, none⟩) :: u3 :: u4 :: u5 :: u6 :: u7 :: u8 :: u9 :: u10 :: u11 :: u12 :: u13 :: u14 :: u15 :: u16 :: u17 :: u18 :: u19 :: u20 :: u21 :: u22 :: u23 :: u24 :: u25 :: u26 :: u27 :: u28 :: u29 :: u30 :: u31 :: u32 :: u33 :: u34 :: u35 :: u36 :: u37 :: u38 :: u39 :: u40 :: u41 :: u42 :: u43 :: u44 :: u45 :: u46 :: u47 :: u48 :: u49 :: u50 :: u51 :: u52 :: u53 :: u54 :: u55 :: u56 :: u57 :: u58 :: u59 :: u60 :: u61 :: u62 :: u63 :: u64 :: u65 :: u66 :: u67 :: u68 :: u69 :: u70 :: u71 :: u72 :: u73 :: u74 :: u75 :: u76 :: u77 :: u78 :: u79 :: u80 :: u81 :: u82 :: u83 :: u84 :: u85 :: u86 :: u87 :: u88 :: u89 :: u90 :: u91 :: u92 :: u93 :: u94 :: u95 :: u96 :: u97 :: u98 :: u99 :: u100 :: u101 :: u102 :: u103 :: u104 :: u105 :: u106 :: u107 :: u108 :: u109 :: u110 :: u111 :: u112 :: u113 :: u114 :: u115 :: u116 :: []), []⟩ w := by
  have HQ := hide hQ
  have HR := hide hR
  have HB := hide hB
  have HI := hide hI
  have hl : bs.length = n := by have := hR.len; rwa [B8_len] at this
  obtain ⟨_, _, _, hvv, hnc, hcm, hpb, hbw, hcc⟩ := hR.lit (by omega)
  injection hvv with e1 _ e3
  injection e1 with e1
  injection e1 with e1 e2
  subst e1 e2 e3
  obtain ⟨z0, hz0⟩ : ∃ z, z = g8 bs 0 := ⟨_, rfl⟩
  obtain ⟨z1, hz1⟩ : ∃ z, z = g8 bs 1 := ⟨_, rfl⟩
  have c0 : w.cell? ⟨b, o, none⟩ = some (.int .u8 z0) := by rw [hz0]; exact hcc 0 _ (B8_get (g8_of (bs := bs) (i := 0) (by omega)))
  have c1 : w.cell? ⟨b, o + 1, none⟩ = some (.int .u8 z1) := by rw [hz1]; exact hcc 1 _ (B8_get (g8_of (bs := bs) (i := 1) (by omega)))
  have r0 : 0 ≤ z0 ∧ z0 < 256 := by rw [hz0]; exact g8_rng hI 0
  have r1 : 0 ≤ z1 ∧ z1 < 256 := by rw [hz1]; exact g8_rng hI 1
  have b1 := bit_32 z0 r0
  have b2 := bit_16 z0 r0
  have b3 := bit_128 z1 r1
  have b4 := bit_127 z1 r1
  have HZ0 := hide hz0
  have HZ1 := hide hz1
  generalize hp1 : decide (z0 / 32 % 2 = 1) = t1 at b1
  generalize hp2 : decide (z0 / 16 % 2 = 1) = t2 at b2
  generalize hp3 : decide (z1 / 128 = 1) = t3 at b3
  have HP1 := hide hp1
  have HP2 := hide hp2
  have HP3 := hide hp3
  have i1 : (1 : Int) < (n : Int) := by omega
  have i0 : (0 : Int) < (n : Int) := by omega
  have l2 : (2 : Int) ≤ (n : Int) := by omega
  have l4 : (4 : Int) ≤ (n : Int) := by omega
  have l8 : (8 : Int) ≤ (n : Int) := by omega
  have j0 : 0 < n := by omega
  have j1 : 1 < n := by omega
  have j2 : 2 ≤ n := by omega
  have j4 : 4 ≤ n := by omega
  have j8 : 8 ≤ n := by omega
  have d2 : ¬ c = 2 := by omega
  have d4 : ¬ c = 4 := by omega
  have d8 : ¬ c = 8 := by omega
  have q1 := fun w0 hr => su16_at (p := p) (bs := bs) (b := b) (o := o) (c := c) (n := n) w0 hr hI 2 (k := n - 2) (c' := c - 2) (by omega) (by omega)
  have q2 := fun w0 hr => su32_at (p := p) (bs := bs) (b := b) (o := o) (c := c) (n := n) w0 hr hI 4 (k := n - 4) (c' := c - 4) (by omega) (by omega) (by omega)
  have q3 := fun w0 hr => su32_at (p := p) (bs := bs) (b := b) (o := o) (c := c) (n := n) w0 hr hI 8 (k := n - 8) (c' := c - 8) (by omega) (by omega) (by omega)
  have Q1 := hide q1
  have Q2 := hide q2
  have Q3 := hide q3
  have C0 := hide c0
  have C1 := hide c1
  clear hQ hR hB hI hcc hpg hz0 hz1 hp1 hp2 hp3 q1 q2 q3
  refine part_open (fun c0 hc K hK => ?_)
  have HK := hide hK
  clear hK
  generalize hfr : yOf c0 = yy at HK
  have hyy : yOf (fromR Tryd.f30 6) = yy := by rw [← hc]; exact hfr
  conv at hc => rhs; whnf
  subst hc
  clear hfr
  dsimp only [xOf, yOf]
  refine wp_region_noPanic ?_
  refine region_last' (S := fun w' => w'.cell? ⟨b, o, none⟩ = some (.int .u8 z0) ∧ w'.cell? ⟨b, o + 1, none⟩ = some (.int .u8 z1)) (by kernel_rfl) (by kernel_rfl) (by simp only [List.dropLast_cons_cons, List.dropLast_singleton]; rfl) (by simp only [List.getLast?_cons_cons, List.getLast?_singleton]; rfl) (⟨c0, c1⟩) (fun hHeld => ?_)
  simp only [List.length_cons, List.length_nil, Nat.reduceAdd, Nat.zero_add]
  refine wpAnyH_take (i := 0) (v := ?_) (by simp only [List.getElem?_toArray, List.getElem?_cons_succ, List.getElem?_cons_zero]; rfl) (by kernel_rfl) (by kernel_rfl) (by kernel_rfl) (fun _ _ _ h => h) (Or.inl ⟨by rfl, ?_⟩) (by assumption) ?_
  rotate_left 1
  · (intro w hSw; (try dsimp only at hSw); go_simp; (try with_reducible rfl))
  try simp only [Act.put, List.setIfInBounds_toArray, List.set_cons_zero, List.set_cons_succ]
  refine wpAnyH_take (i := 1) (v := ?_) (by simp only [List.getElem?_toArray, List.getElem?_cons_succ, List.getElem?_cons_zero]; rfl) (by kernel_rfl) (by kernel_rfl) (by kernel_rfl) (fun _ _ _ h => h) (Or.inl ⟨by rfl, ?_⟩) (by assumption) ?_
  rotate_left 1
  · (intro w hSw; (try dsimp only at hSw); go_simp; (try with_reducible rfl))
  try simp only [Act.put, List.setIfInBounds_toArray, List.set_cons_zero, List.set_cons_succ]
  refine wpAnyH_take (i := 2) (v := ?_) (by simp only [List.getElem?_toArray, List.getElem?_cons_succ, List.getElem?_cons_zero]; rfl) (by kernel_rfl) (by kernel_rfl) (by kernel_rfl) (fun _ _ _ h => h) (Or.inl ⟨by rfl, ?_⟩) (by assumption) ?_
  rotate_left 1
  · (intro w hSw; (try dsimp only at hSw); go_simp; (try with_reducible rfl))
  try simp only [Act.put, List.setIfInBounds_toArray, List.set_cons_zero, List.set_cons_succ]
  refine wpAnyH_take (i := 3) (v := ?_) (by simp only [List.getElem?_toArray, List.getElem?_cons_succ, List.getElem?_cons_zero]; rfl) (by kernel_rfl) (by kernel_rfl) (by kernel_rfl) (fun _ _ _ h => h) (Or.inl ⟨by rfl, ?_⟩) (by assumption) ?_
  rotate_left 1
  · (intro w hSw; (try dsimp only at hSw); go_simp; (try with_reducible rfl))
  try simp only [Act.put, List.setIfInBounds_toArray, List.set_cons_zero, List.set_cons_succ]
  refine wpAnyH_take (i := 4) (v := ?_) (by simp only [List.getElem?_toArray, List.getElem?_cons_succ, List.getElem?_cons_zero]; rfl) (by kernel_rfl) (by kernel_rfl) (by kernel_rfl) (fun _ _ _ h => h) (Or.inl ⟨by rfl, ?_⟩) (by assumption) ?_
  rotate_left 1
  · (intro w hSw; (try dsimp only at hSw); go_simp; (try with_reducible rfl))
  try simp only [Act.put, List.setIfInBounds_toArray, List.set_cons_zero, List.set_cons_succ]
  refine wpAnyH_take (i := 5) (v := ?_) (by simp only [List.getElem?_toArray, List.getElem?_cons_succ, List.getElem?_cons_zero]; rfl) (by kernel_rfl) (by kernel_rfl) (by kernel_rfl) (fun _ _ _ h => h) (Or.inl ⟨by rfl, ?_⟩) (by assumption) ?_
  rotate_left 1
  · (intro w hSw; (try dsimp only at hSw); go_simp; (try with_reducible rfl))
  try simp only [Act.put, List.setIfInBounds_toArray, List.set_cons_zero, List.set_cons_succ]
  refine wpAnyH_take (i := 6) (v := ?_) (by simp only [List.getElem?_toArray, List.getElem?_cons_succ, List.getElem?_cons_zero]; rfl) (by kernel_rfl) (by kernel_rfl) (by kernel_rfl) (fun _ _ _ h => h) (Or.inl ⟨by rfl, ?_⟩) (by assumption) ?_
  rotate_left 1
  · (intro w hSw; (try dsimp only at hSw); go_simp; (try with_reducible rfl))
  try simp only [Act.put, List.setIfInBounds_toArray, List.set_cons_zero, List.set_cons_succ]
  refine wpAnyH_take (i := 7) (v := ?_) (by simp only [List.getElem?_toArray, List.getElem?_cons_succ, List.getElem?_cons_zero]; rfl) (by kernel_rfl) (by kernel_rfl) (by kernel_rfl) (fun _ _ _ h => h) (Or.inl ⟨by rfl, ?_⟩) (by assumption) ?_
  rotate_left 1
  · (intro w hSw; (try dsimp only at hSw); go_simp; (try with_reducible rfl))
  try simp only [Act.put, List.setIfInBounds_toArray, List.set_cons_zero, List.set_cons_succ]
  refine wpAnyH_take (i := 8) (v := ?_) (by simp only [List.getElem?_toArray, List.getElem?_cons_succ, List.getElem?_cons_zero]; rfl) (by kernel_rfl) (by kernel_rfl) (by kernel_rfl) (fun _ _ _ h => h) (Or.inl ⟨by rfl, ?_⟩) (by assumption) ?_
  rotate_left 1
  · (intro w hSw; (try dsimp only at hSw); go_simp; (try with_reducible rfl))
  try simp only [Act.put, List.setIfInBounds_toArray, List.set_cons_zero, List.set_cons_succ]
  refine wpAnyH_take (i := 9) (v := ?_) (by simp only [List.getElem?_toArray, List.getElem?_cons_succ, List.getElem?_cons_zero]; rfl) (by kernel_rfl) (by kernel_rfl) (by kernel_rfl) (fun _ _ _ h => h) (Or.inl ⟨by rfl, ?_⟩) (by assumption) ?_
  rotate_left 1
  · (intro w hSw; (try dsimp only at hSw); go_simp; (try with_reducible rfl))
  try simp only [Act.put, List.setIfInBounds_toArray, List.set_cons_zero, List.set_cons_succ]
  refine wpAnyH_take (i := 10) (v := ?_) (by simp only [List.getElem?_toArray, List.getElem?_cons_succ, List.getElem?_cons_zero]; rfl) (by kernel_rfl) (by kernel_rfl) (by kernel_rfl) (fun _ _ _ h => h) (Or.inl ⟨by rfl, ?_⟩) (by assumption) ?_
  rotate_left 1
  · (intro w hSw; (try dsimp only at hSw); go_simp; (try with_reducible rfl))
  try simp only [Act.put, List.setIfInBounds_toArray, List.set_cons_zero, List.set_cons_succ]
  refine wpAnyH_take (i := 11) (v := ?_) (by simp only [List.getElem?_toArray, List.getElem?_cons_succ, List.getElem?_cons_zero]; rfl) (by kernel_rfl) (by kernel_rfl) (by kernel_rfl) (fun _ _ _ h => h) (Or.inl ⟨by rfl, ?_⟩) (by assumption) ?_
  rotate_left 1
  · (intro w hSw; (try dsimp only at hSw); go_simp; (try with_reducible rfl))
  try simp only [Act.put, List.setIfInBounds_toArray, List.set_cons_zero, List.set_cons_succ]
  refine wpAnyH_take (i := 12) (v := ?_) (by simp only [List.getElem?_toArray, List.getElem?_cons_succ, List.getElem?_cons_zero]; rfl) (by kernel_rfl) (by kernel_rfl) (by kernel_rfl) (fun _ _ _ h => h) (Or.inl ⟨by rfl, ?_⟩) (by assumption) ?_
  rotate_left 1
  · (intro w hSw; (try dsimp only at hSw); go_simp; (try with_reducible rfl))
  try simp only [Act.put, List.setIfInBounds_toArray, List.set_cons_zero, List.set_cons_succ]
  refine wpAnyH_take (i := 13) (v := ?_) (by simp only [List.getElem?_toArray, List.getElem?_cons_succ, List.getElem?_cons_zero]; rfl) (by kernel_rfl) (by kernel_rfl) (by kernel_rfl) (fun _ _ _ h => h) (Or.inl ⟨by rfl, ?_⟩) (by assumption) ?_
  rotate_left 1
  · (intro w hSw; (try dsimp only at hSw); go_simp; (try with_reducible rfl))
  try simp only [Act.put, List.setIfInBounds_toArray, List.set_cons_zero, List.set_cons_succ]
  refine wpAnyH_take (i := 14) (v := ?_) (by simp only [List.getElem?_toArray, List.getElem?_cons_succ, List.getElem?_cons_zero]; rfl) (by kernel_rfl) (by kernel_rfl) (by kernel_rfl) (fun _ _ _ h => h) (Or.inl ⟨by rfl, ?_⟩) (by assumption) ?_
  rotate_left 1
  · (intro w hSw; (try dsimp only at hSw); go_simp; (try with_reducible rfl))
  try simp only [Act.put, List.setIfInBounds_toArray, List.set_cons_zero, List.set_cons_succ]
  refine wpAnyH_take (i := 15) (v := ?_) (by simp only [List.getElem?_toArray, List.getElem?_cons_succ, List.getElem?_cons_zero]; rfl) (by kernel_rfl) (by kernel_rfl) (by kernel_rfl) (fun _ _ _ h => h) (Or.inl ⟨by rfl, ?_⟩) (by assumption) ?_
  rotate_left 1
  · (intro w hSw; (try dsimp only at hSw); go_simp; (try with_reducible rfl))
  try simp only [Act.put, List.setIfInBounds_toArray, List.set_cons_zero, List.set_cons_succ]
  refine wpAnyH_take (i := 16) (v := ?_) (by simp only [List.getElem?_toArray, List.getElem?_cons_succ, List.getElem?_cons_zero]; rfl) (by kernel_rfl) (by kernel_rfl) (by kernel_rfl) (fun _ _ _ h => h) (Or.inl ⟨by rfl, ?_⟩) (by assumption) ?_
  rotate_left 1
  · (intro w hSw; (try dsimp only at hSw); go_simp; (try with_reducible rfl))
  try simp only [Act.put, List.setIfInBounds_toArray, List.set_cons_zero, List.set_cons_succ]
  refine wpAnyH_take (i := 17) (v := ?_) (by simp only [List.getElem?_toArray, List.getElem?_cons_succ, List.getElem?_cons_zero]; rfl) (by kernel_rfl) (by kernel_rfl) (by kernel_rfl) (fun _ _ _ h => h) (Or.inl ⟨by rfl, ?_⟩) (by assumption) ?_
  rotate_left 1
  · (intro w hSw; (try dsimp only at hSw); go_simp; (try with_reducible rfl))
  try simp only [Act.put, List.setIfInBounds_toArray, List.set_cons_zero, List.set_cons_succ]
  refine wpAnyH_take (i := 18) (v := ?_) (by simp only [List.getElem?_toArray, List.getElem?_cons_succ, List.getElem?_cons_zero]; rfl) (by kernel_rfl) (by kernel_rfl) (by kernel_rfl) (fun _ _ _ h => h) (Or.inl ⟨by rfl, ?_⟩) (by assumption) ?_
  rotate_left 1
  · (intro w hSw; (try dsimp only at hSw); go_simp; (try with_reducible rfl))
  try simp only [Act.put, List.setIfInBounds_toArray, List.set_cons_zero, List.set_cons_succ]
  refine wpAnyH_take (i := 19) (v := ?_) (by simp only [List.getElem?_toArray, List.getElem?_cons_succ, List.getElem?_cons_zero]; rfl) (by kernel_rfl) (by kernel_rfl) (by kernel_rfl) (fun _ _ _ h => h) (Or.inl ⟨by rfl, ?_⟩) (by assumption) ?_
  rotate_left 1
  · (intro w hSw; (try dsimp only at hSw); go_simp; (try with_reducible rfl))
  try simp only [Act.put, List.setIfInBounds_toArray, List.set_cons_zero, List.set_cons_succ]
  refine wpAnyH_take (i := 20) (v := ?_) (by simp only [List.getElem?_toArray, List.getElem?_cons_succ, List.getElem?_cons_zero]; rfl) (by kernel_rfl) (by kernel_rfl) (by kernel_rfl) (fun _ _ _ h => h) (Or.inl ⟨by rfl, ?_⟩) (by assumption) ?_
  rotate_left 1
  · (intro w hSw; (try dsimp only at hSw); go_simp; (try with_reducible rfl))
  try simp only [Act.put, List.setIfInBounds_toArray, List.set_cons_zero, List.set_cons_succ]
  refine wpAnyH_take (i := 21) (v := ?_) (by simp only [List.getElem?_toArray, List.getElem?_cons_succ, List.getElem?_cons_zero]; rfl) (by kernel_rfl) (by kernel_rfl) (by kernel_rfl) (fun _ _ _ h => h) (Or.inl ⟨by rfl, ?_⟩) (by assumption) ?_
  rotate_left 1
  · (intro w hSw; (try dsimp only at hSw); go_simp; (try with_reducible rfl))
  try simp only [Act.put, List.setIfInBounds_toArray, List.set_cons_zero, List.set_cons_succ]
  refine wpAnyH_take (i := 22) (v := ?_) (by simp only [List.getElem?_toArray, List.getElem?_cons_succ, List.getElem?_cons_zero]; rfl) (by kernel_rfl) (by kernel_rfl) (by kernel_rfl) (fun _ _ _ h => h) (Or.inl ⟨by rfl, ?_⟩) (by assumption) ?_
  rotate_left 1
  · (intro w hSw; (try dsimp only at hSw); go_simp; (try with_reducible rfl))
  try simp only [Act.put, List.setIfInBounds_toArray, List.set_cons_zero, List.set_cons_succ]
  refine wpAnyH_take (i := 23) (v := ?_) (by simp only [List.getElem?_toArray, List.getElem?_cons_succ, List.getElem?_cons_zero]; rfl) (by kernel_rfl) (by kernel_rfl) (by kernel_rfl) (fun _ _ _ h => h) (Or.inl ⟨by rfl, ?_⟩) (by assumption) ?_
  rotate_left 1
  · (intro w hSw; (try dsimp only at hSw); go_simp; (try with_reducible rfl))
  try simp only [Act.put, List.setIfInBounds_toArray, List.set_cons_zero, List.set_cons_succ]
  refine wpAnyH_take (i := 24) (v := ?_) (by simp only [List.getElem?_toArray, List.getElem?_cons_succ, List.getElem?_cons_zero]; rfl) (by kernel_rfl) (by kernel_rfl) (by kernel_rfl) (fun _ _ _ h => h) (Or.inl ⟨by rfl, ?_⟩) (by assumption) ?_
  rotate_left 1
  · (intro w hSw; (try dsimp only at hSw); go_simp; (try with_reducible rfl))
  try simp only [Act.put, List.setIfInBounds_toArray, List.set_cons_zero, List.set_cons_succ]
  refine wpAnyH_take (i := 26) (v := ?_) (by simp only [List.getElem?_toArray, List.getElem?_cons_succ, List.getElem?_cons_zero]; rfl) (by kernel_rfl) (by kernel_rfl) (by kernel_rfl) (fun _ _ _ h => h) (Or.inl ⟨by rfl, ?_⟩) (by assumption) ?_
  rotate_left 1
  · (intro w hSw; (try dsimp only at hSw); go_simp; (try with_reducible rfl))
  try simp only [Act.put, List.setIfInBounds_toArray, List.set_cons_zero, List.set_cons_succ]
  refine wpAnyH_take (i := 27) (v := ?_) (by simp only [List.getElem?_toArray, List.getElem?_cons_succ, List.getElem?_cons_zero]; rfl) (by kernel_rfl) (by kernel_rfl) (by kernel_rfl) (fun _ _ _ h => h) (Or.inl ⟨by rfl, ?_⟩) (by assumption) ?_
  rotate_left 1
  · (intro w hSw; (try dsimp only at hSw); go_simp; (try with_reducible rfl))
  try simp only [Act.put, List.setIfInBounds_toArray, List.set_cons_zero, List.set_cons_succ]
  refine wpAnyH_take (i := 29) (v := ?_) (by simp only [List.getElem?_toArray, List.getElem?_cons_succ, List.getElem?_cons_zero]; rfl) (by kernel_rfl) (by kernel_rfl) (by kernel_rfl) (fun _ _ _ h => h) (Or.inl ⟨by rfl, ?_⟩) (by assumption) ?_
  rotate_left 1
  · (intro w hSw; (try dsimp only at hSw); go_simp; (try with_reducible rfl))
  try simp only [Act.put, List.setIfInBounds_toArray, List.set_cons_zero, List.set_cons_succ]
  refine wpAnyH_take (i := 30) (v := ?_) (by simp only [List.getElem?_toArray, List.getElem?_cons_succ, List.getElem?_cons_zero]; rfl) (by kernel_rfl) (by kernel_rfl) (by kernel_rfl) (fun _ _ _ h => h) (Or.inl ⟨by rfl, ?_⟩) (by assumption) ?_
  rotate_left 1
  · (intro w hSw; (try dsimp only at hSw); go_simp; (try with_reducible rfl))
  try simp only [Act.put, List.setIfInBounds_toArray, List.set_cons_zero, List.set_cons_succ]
  refine wpAnyH_ready (rs := [25]) (by kernel_rfl) (by simp) ?_
  refine AllReadyH.cons (by simp only [List.getElem?_toArray, List.getElem?_cons_succ, List.getElem?_cons_zero]; rfl) (fun K hK => ?_) AllReadyH.nil
  go_simp
  go_at_call 67
  refine (Q1.out _ (HR.out.keep0 ((Keep.refl w Nul).drew))).mono ?_
  rintro e KAw ⟨rfl, k0⟩
  have KA := hide (((Keep.refl w Nul).drew).trans0 k0)
  clear k0
  simp only []
  refine hK.out _ _ (⟨KA.out.cell id C0.out, KA.out.cell id C1.out⟩) (fun hHeld => ?_)
  clear hK K
  try simp only [Act.put, List.setIfInBounds_toArray, List.set_cons_zero, List.set_cons_succ]
  refine wpAnyH_ready (rs := [28]) (by kernel_rfl) (by simp) ?_
  refine AllReadyH.cons (by simp only [List.getElem?_toArray, List.getElem?_cons_succ, List.getElem?_cons_zero]; rfl) (fun K hK => ?_) AllReadyH.nil
  go_simp
  go_at_call 68
  refine (Q2.out _ (HR.out.keep0 (KA.out))).mono ?_
  rintro e KBw ⟨rfl, k0⟩
  have KB := hide ((KA.out).trans0 k0)
  clear k0
  simp only []
  refine hK.out _ _ (⟨KB.out.cell id C0.out, KB.out.cell id C1.out⟩) (fun hHeld => ?_)
  clear hK K
  try simp only [Act.put, List.setIfInBounds_toArray, List.set_cons_zero, List.set_cons_succ]
  refine wpAnyH_ready (rs := [31]) (by kernel_rfl) (by simp) ?_
  refine AllReadyH.cons (by simp only [List.getElem?_toArray, List.getElem?_cons_succ, List.getElem?_cons_zero]; rfl) (fun K hK => ?_) AllReadyH.nil
  go_simp
  go_at_call 68
  refine (Q3.out _ (HR.out.keep0 (KB.out))).mono ?_
  rintro e KCw ⟨rfl, k0⟩
  have KC := hide ((KB.out).trans0 k0)
  clear k0
  simp only []
  refine hK.out _ _ (⟨KC.out.cell id C0.out, KC.out.cell id C1.out⟩) (fun hHeld => ?_)
  clear hK K
  try simp only [Act.put, List.setIfInBounds_toArray, List.set_cons_zero, List.set_cons_succ]
  refine wpAnyH_take (i := 32) (v := ?_) (by simp only [List.getElem?_toArray, List.getElem?_cons_succ, List.getElem?_cons_zero]; rfl) (by kernel_rfl) (by kernel_rfl) (by kernel_rfl) (fun _ _ _ h => h) (Or.inl ⟨by rfl, ?_⟩) (by assumption) ?_
  rotate_left 1
  · (intro w hSw; (try dsimp only at hSw); go_simp; (try with_reducible rfl))
  try simp only [Act.put, List.setIfInBounds_toArray, List.set_cons_zero, List.set_cons_succ]
  refine wpAnyH_done (by kernel_rfl) ?_ _
  intro K hK
  refine wp_stRow rfl rfl rfl (HB.out.keep KC.out id) (by kernel_rfl) rfl (by simp [Value.oneCell']) ?_
  intro w5 b5 k5
  refine hK _ _ (NoPanic.normal ?_)
  clear hK
  have B5 := hide (show Blk w5 g 27 (hcells (hdF bs) (.slice none 0 0) (.slice none 0 0)) by rw [← HP1.out, ← HP2.out, ← HP3.out, HZ0.out, HZ1.out] at b5; exact b5)
  have K5 := hide (show Keep w w5 (· = g) from (KC.out.nul _).trans k5 (fun _ _ e => e))
  clear b5 k5
  refine HK.out _ _ ?_
  rw [← hyy]
  exact HQ.out _ _ _ _ _ _ _ _ _ _ _ _ _ _ _ _ _ _ _ _ _ _ _ _ _ _ _ _ _ _ _ _ _ _  B5.out K5.out
end Go.Proofs.YtdmnflngafbobaaDoor
namespace Go.Proofs.YtdmnflngafbobaaDoor
open Go.RowKit
set_option linter.unusedVariables false
set_option linter.unusedSimpArgs false
set_option maxRecDepth 100000

section
variable {bs : List Int} {k L : Nat}
theorem readB_v (hk : k = cc bs) (hcc : 12 + 4 * k ≤ bs.length) (hv : g8 bs 0 / 64 ≠ 2) : readB bs = .wide := by
  subst hk; unfold readB; rw [if_neg (by omega), if_neg (by omega), if_pos hv]
theorem readB_n (hk : k = cc bs) (hcc : 12 + 4 * k ≤ bs.length) (hv : g8 bs 0 / 64 = 2) (hx : (headR bs).ext = false) : readB bs = .good (headR bs) (12 + 4 * k) := by
  subst hk; unfold readB; rw [if_neg (by omega), if_neg (by omega), if_neg (by omega), if_pos hx]
theorem readB_e1 (hk : k = cc bs) (hcc : 12 + 4 * k ≤ bs.length) (hv : g8 bs 0 / 64 = 2) (hx : (headR bs).ext = true) (h : bs.length < 12 + 4 * k + 4) : readB bs = .bad := by
  subst hk; unfold readB; rw [if_neg (by omega), if_neg (by omega), if_neg (by omega), if_neg (by rw [hx]; simp), if_pos h]
theorem readB_e2 (hk : k = cc bs) (hcc : 12 + 4 * k + 4 ≤ bs.length) (hv : g8 bs 0 / 64 = 2) (hx : (headR bs).ext = true) (hL : L = (g16 bs (12 + 4 * k + 2)).toNat) (h : bs.length < 12 + 4 * k + 4 + 4 * L) : readB bs = .bad := by
  subst hk hL; unfold readB; rw [if_neg (by omega), if_neg (by omega), if_neg (by omega), if_neg (by rw [hx]; simp), if_neg (by omega), if_pos h]
theorem piece_L (P m : Nat) : pieceB bs P (P + m) = (bs.drop P).take m := by unfold pieceB; rw [Nat.add_sub_cancel_left]
theorem readB_e3 (hk : k = cc bs) (hv : g8 bs 0 / 64 = 2) (hx : (headR bs).ext = true) (hL : L = (g16 bs (12 + 4 * k + 2)).toNat) (hcc : 12 + 4 * k + 4 + 4 * L ≤ bs.length) (h : extsOf (g16 bs (12 + 4 * k)) ((bs.drop (12 + 4 * k + 4)).take (4 * L)) = none) : readB bs = .wide := by
  subst hk hL; unfold readB; rw [if_neg (by omega), if_neg (by omega), if_neg (by omega), if_neg (by rw [hx]; simp), if_neg (by omega), if_neg (by omega), h]
theorem readB_e4 {ys : List Ex} (hk : k = cc bs) (hv : g8 bs 0 / 64 = 2) (hx : (headR bs).ext = true) (hL : L = (g16 bs (12 + 4 * k + 2)).toNat) (hcc : 12 + 4 * k + 4 + 4 * L ≤ bs.length) (h : extsOf (g16 bs (12 + 4 * k)) ((bs.drop (12 + 4 * k + 4)).take (4 * L)) = some ys) :
    readB bs = .good { headR bs with prof := g16 bs (12 + 4 * k), exts := ys } (12 + 4 * k + 4 + 4 * L) := by
  subst hk hL; unfold readB; rw [if_neg (by omega), if_neg (by omega), if_neg (by omega), if_neg (by rw [hx]; simp), if_neg (by omega), if_neg (by omega), h]
end

/-- What the reference's read of a header leaves. -/
def RhPost (bs : List Int) (q : Nat → Prop) (w0 : World) (e : Ending) (w' : World) : Prop :=
  Keep w0 w' Nul ∧ ∃ (h : Hd) (A1 : Option Addr) (n1 c1 : Nat) (A2 : Option Addr) (n2 c2 : Nat) (m vd : Int), e = .returned (.tuple #[.agg (hcells h (.slice A1 n1 c1) (.slice A2 n2 c2)), .int .i64 m, .int .i64 vd]) ∧
    ((readB bs = .bad ∧ vd = 1) ∨ (readB bs = .wide ∧ vd = 2) ∨ (∃ mm : Nat, readB bs = .good h mm ∧ m = mm ∧ vd = 0 ∧ HV w' q (.agg (hcells h (.slice A1 n1 c1) (.slice A2 n2 c2))) h))

theorem part_seq {P : Program} {f : Func} {n : Nat} {Q : Exit → Act → World → Prop} {a : Act} {w : World} {x y : Code} (h : fromR f n = .seq x y) (T : Part P f n Q a w) : (fromR f n).wp P Q a w := by
  unfold Part at T
  rw [h] at T ⊢
  exact wp_seq T

set_option maxHeartbeats 3200000 in
theorem rh_p16 {p ps q : Nat → Prop} {bs : List Int} {n c b o g k m c1 : Nat} {A1 : Option Addr} {w0 : World} {KK : Act → World → Prop} (w : World) (u1 u4 u5 u6 u7 u8 u9 u10 u11 u12 u13 u14 u15 u16 u17 u18 u19 u20 u21 u22 u23 u24 u25 u26 u27 u28 u29 u30 u31 u32 u33 u34 u35 u36 u37 u38 u39 u40 u41 u42 u43 u44 u45 u46 u47 u48 u49 u50 u51 u52 u53 u54 u55 u56 u57 u58 u59 u60 u61 u62 u63 u64 u65 u66 u67 u68 u69 u70 u71 u72 u73 u74 u75 u76 u77 u78 u79 u80 u81 u82 u83 u84 u85 u86 u87 u88 u89 u90 u91 u92 u93 u94 u95 u96 u97 u98 u99 u100 u101 u102 u103 u104 u105 u106 u107 u108 u109 u110 u111 u112 u113 u114 u115 u116 : Value)
    (hKK : ∀ a w, (fromR Tryd.f30 24).wp Tryd.prog (bodyPost Tryd.prog Tryd.f30 (RhPost bs q w0)) a w → KK a w)
    (hR : Rd w p 1 (.slice (some ⟨b, o, none⟩) n c) n (B8 bs)) (hI : IsB bs) (hk : k = cc bs) (hm : m = 12 + 4 * k) (hn : m + 4 ≤ n) (hnm : n ≤ 2147483647) (hv : g8 bs 0 / 64 = 2) (hx : (headR bs).ext = true)
    (hB : Blk w g 27 (hcells (hdF bs) (.slice A1 k c1) (.slice none 0 0))) (hS : Rd w ps 1 (.slice A1 k c1) k (U32 (srcsR bs))) (hps : ∀ i, ps i → i ≠ g ∧ i < w.heap.size) (hpg : ∀ i, p i → i ≠ g ∧ i < w.heap.size) (hK0 : Keep w0 w Nul) (hg0 : w0.heap.size ≤ g) (hq1 : ∀ i, ps i → q i) (hq2 : ∀ i, p i → q i) (hq3 : ∀ i, w0.heap.size ≤ i → q i) :
    Part Tryd.prog Tryd.f30 16 (Exit.then KK (bodyPost Tryd.prog Tryd.f30 (RhPost bs q w0))) ⟨List.toArray (.slice (some ⟨b, o, none⟩) n c :: u1 :: .pointer (some ⟨g, 0, none⟩) :: .int .i64 (m : Int) :: u4 :: u5 :: u6 :: u7 :: u8 :: u9 :: u10 :: u11 :: u12 :: u13 :: u14 :: u15 :: u16 :: u17 :: u18 :: u19 :: u20 :: u21 :: u22 :: u23 :: u24 :: u25 :: u26 :: u27 :: u28 :: u29 :: u30 :: u31 :: u32 :: u33 :: u34 :: u35 :: u36 :: u37 :: u38 :: u39 :: u40 :: u41 :: u42 :: u43 :: u44 :: u45 :: u46 :: u47 :: u48 :: u49 :: u50 :: u51 :: u52 :: u53 :: u54 :: u55 :: u56 :: u57 :: u58 :: u59 :: u60 :: u61 :: u62 :: u63 :: u64 :: u65 :: u66 :: u67 :: u68 :: u69 :: u70 :: u71 :: u72 :: u73 :: u74 :: u75 :: u76 :: u77 :: u78 :: u79 :: u80 :: u81 :: u82 :: u83 :: u84 :: u85 :: u86 :: u87 :: u88 :: u89 :: u90 :: u91 :: u92 :: u93 :: u94 :: u95 :: u96 :: u97 :: u98 :: u99 :: u100 :: u101 :: u102 :: u103 :: u104 :: u105 :: u106 :: u107 :: u108 :: u109 :: u110 :: u111 :: u112 :: u113 :: u114 :: u115 :: u116 :: []), []⟩ w := by
  have HKK := hide hKK
  have HQ1 := hide hq1
  have HQ2 := hide hq2
  have HQ3 := hide hq3
  clear hq1 hq2 hq3
  have HPG := hide hpg
  have HPS := hide hps
  have HI := hide hI
  have HB := hide hB
  have HR := hide hR
  have HS := hide hS
  have HV2 := hide hv
  have HX := hide hx
  have HCC := hide hk
  have HM := hide hm
  have HK0 := hide hK0
  have hl : bs.length = n := by have := hR.len; rwa [B8_len] at this
  have HL := hide hl
  obtain ⟨_, _, _, hvv, hnc, hcm, hpb, hbw, hcc⟩ := hR.lit (by omega)
  clear hcc
  injection hvv with e1 _ e3
  injection e1 with e1
  injection e1 with e1 e2
  subst e1 e2 e3
  have hgw := hB.lt
  have x9 := hB.cell 9 (v := .int .u16 0) rfl
  have fg := fun i => HB.out.free i
  have hbg := (hpg b hpb).1
  have n1 : ¬ c = m := by omega
  have n2 : ¬ c = m + 2 := by omega
  have n3 : (m : Int) ≤ (n : Int) := by omega
  have n4 : (m : Int) + 2 ≤ (n : Int) := by omega
  have n5 : ((m : Int) + 2).toNat = m + 2 := by omega
  have n6 : (0 : Int) ≤ (m : Int) + 2 := by omega
  have hC1 := hide (su16_at w HR.out HI.out m (k := n - m) (c' := c - m) (by omega) (by omega))
  clear hKK hpg hps hI hB hR hS hv hx hk hm hK0 hl
  refine part_open (fun c0 hc K hK => ?_)
  conv at hc => rhs; whnf
  subst hc
  dsimp only [xOf, yOf] at hK ⊢
  go_wp2_with fail
  refine (hC1.out).mono ?_
  rintro e w1 ⟨rfl, k1⟩
  have B1 := hide (HB.out.keep k1 id)
  have K1 := hide k1
  have x9' := B1.out.cell 9 (v := .int .u16 0) rfl
  have fg' := fun i => B1.out.free i
  have hgw' := B1.out.lt
  clear k1 x9 fg hC1 hgw
  go_upto_region 17 with fail
  generalize hw2 : World.setCell w1 _ _ = w2
  have B2 := hide (show Blk w2 g 27 (hcells { hdF bs with prof := g16 bs m } (.slice A1 k c1) (.slice none 0 0)) by subst hw2; exact B1.out.set_ 9 _)
  have K2 := hide (show Keep w w2 (· = g) by subst hw2; exact (K1.out.nul (· = g)).setg 9 (fun _ => rfl) _)
  have hz2 := K2.out.size
  clear hw2 x9' fg' hgw'
  have R2 := hide (HR.out.keep K2.out (fun i _ hi e => (HPG.out i hi).1 e))
  have S2 := hide (HS.out.keep K2.out (fun i _ hi e => (HPS.out i hi).1 e))
  have hC2 := hide (su16_at w2 R2.out HI.out (m + 2) (k := n - (m + 2)) (c' := c - (m + 2)) (by omega) (by omega))
  have r0 := g8_rng HI.out (m + 2)
  have r1 := g8_rng HI.out (m + 2 + 1)
  have r16 : 0 ≤ g16 bs (m + 2) ∧ g16 bs (m + 2) ≤ 65535 := by unfold g16; omega
  obtain ⟨L, hL⟩ : ∃ L, L = (g16 bs (m + 2)).toNat := ⟨_, rfl⟩
  have hLi : g16 bs (m + 2) = (L : Int) := by omega
  have hL6 : L ≤ 65535 := by omega
  rw [hLi] at hC2
  have HLL := hide hL
  clear hL hLi r0 r1 r16
  go_wp2_with fail
  refine (hC2.out).mono ?_
  rintro e w3 ⟨rfl, k3⟩
  have B3 := hide (B2.out.keep k3 id)
  have K3 := hide (K2.out.trans0 k3)
  have R3 := hide (R2.out.keep0 k3)
  have S3 := hide (S2.out.keep0 k3)
  have hz3 := k3.size
  clear k3 hC2 n1 n2 n3 n4 n5 n6
  have KE := hide (show ∀ w', Keep w w' (· = g) → Keep w0 w' Nul from fun w' k => HK0.out.trans k (fun i hi e => by omega))
  by_cases hlt : n < m + 4 + 4 * L
  · have hlt' : (n : Int) < (m : Int) + 4 + 4 * (L : Int) := by omega
    have HBAD := hide (readB_e2 (L := L) HCC.out (by have := HL.out; have := HM.out; omega) HV2.out HX.out (by rw [← HM.out]; exact HLL.out) (by rw [← HM.out, HL.out]; exact hlt))
    go_upto_region 20 with fail
    refine part_use (rh_r20 (h := { hdF bs with prof := g16 bs m }) (post := RhPost bs q w0) (by intro _ _ h; exact h) _ _ _ _ _ _ _ _ _ _ _ _ _ _ _ _ _ _ _ _ _ _ _ _ _ _ _ _ _ _ _ _ _ _ _ _ _ _ _ _ _ _ _ _ _ _ _ _ _ _ _ _ _ _ _ _ _ _ _ _ _ _ _ _ _ _ _ _ _ _ _ _ _ _ _ _ _ _ _ _ _ _ _ _ _ _ _ _ _ _ _ _ _ _ _ _ _ _ _ _ _ _ _ _ _ _ _ _ _ _ _ _ _ _ _ _ _ B3.out (fun w' k => ⟨KE.out _ (K3.out.trans k (fun _ _ e => e)), _, _, _, _, _, _, _, _, _, rfl, .inl ⟨HBAD.out, rfl⟩⟩)) rfl rfl (by assumption)
  · have hlt' : ¬ (n : Int) < (m : Int) + 4 + 4 * (L : Int) := by omega
    by_cases hc4 : c = m + 4
    · obtain rfl : L = 0 := by omega
      obtain rfl : n = m + 4 := by omega
      have rd := R3.out.sub (m + 4) (m + 4) (Nat.le_refl _) (Nat.le_refl _) (some ⟨b, o, none⟩) (fun h => absurd hc4 h) (by simp)
      rw [Nat.sub_self, hc4, Nat.sub_self] at rd
      have hI3 : IsB ((bs.drop (m + 4)).take 0) := fun x hx => by simp at hx
      have hC3 := hide (sread_walk (h := { hdF bs with prof := g16 bs m }) (sv := .slice A1 k c1) w3 rd hI3 (by omega) B3.out (fun i hi => ⟨(HPG.out i hi).1, by have := (HPG.out i hi).2; omega⟩))
      have h4 : ((m : Int) + 4).toNat = m + 4 := by omega
      clear rd hI3 hlt' hlt
      subst hc4
      go_wp2_with fail
      refine (hC3.out).mono ?_
      rintro e w4 hp4
      rcases hp4 with ⟨hex, rfl, ⟨A2, l2, c2, b4⟩, k4⟩ | ⟨ys, xv, hex, rfl, b4, x4, k4⟩
      · have B4 := hide b4
        have K4 := hide (K3.out.trans k4 (fun _ _ e => e))
        have HW := hide (readB_e3 (L := 0) HCC.out HV2.out HX.out (by rw [← HM.out]; exact HLL.out) (by have := HL.out; have := HM.out; omega) (by rw [← HM.out]; exact hex))
        clear b4 k4 hex
        go_upto_region 22 with fail
        refine part_use (rh_r22 (h := { hdF bs with prof := g16 bs m }) (post := RhPost bs q w0) (by intro _ _ h; exact h) _ _ _ _ _ _ _ _ _ _ _ _ _ _ _ _ _ _ _ _ _ _ _ _ _ _ _ _ _ _ _ _ _ _ _ _ _ _ _ _ _ _ _ _ _ _ _ _ _ _ _ _ _ _ _ _ _ _ _ _ _ _ _ _ _ _ _ _ _ _ _ _ _ _ _ _ _ _ _ _ _ _ _ _ _ _ _ _ _ _ _ _ _ _ _ _ _ _ _ _ _ _ _ _ _ _ _ _ _ _ _ _ _ _ _ _ _ B4.out (fun w' k => ⟨KE.out _ (K4.out.trans k (fun _ _ e => e)), _, _, _, _, _, _, _, _, _, rfl, .inr (.inl ⟨HW.out, rfl⟩)⟩)) rfl rfl (by assumption)
      · have K4 := hide (K3.out.trans k4 (fun _ _ e => e))
        have HG := hide (readB_e4 (L := 0) HCC.out HV2.out HX.out (by rw [← HM.out]; exact HLL.out) (by have := HL.out; have := HM.out; omega) (by rw [← HM.out]; exact hex))
        obtain ⟨A2, c2, rfl⟩ := x4.shape
        have B4 := hide b4
        have X4 := hide x4
        have S4 := hide (S3.out.keep k4 (fun i hi hp e => (HPS.out i hp).1 e))
        clear b4 k4 hex x4
        go_wp2_with fail
        refine HKK.out _ _ ?_
        refine part_seq (x := xOf (fromR Tryd.f30 24)) (y := yOf (fromR Tryd.f30 24)) (by kernel_rfl) ?_
        refine rh_r24 (h := { hdF bs with prof := g16 bs m }) (post := RhPost bs q w0) (by intro _ _ h; exact h) w4 _ _ _ _ _ _ _ _ _ _ _ _ _ _ _ _ _ _ _ _ _ _ _ _ _ _ _ _ _ _ _ _ _ _ _ _ _ _ _ _ _ _ _ _ _ _ _ _ _ _ _ _ _ _ _ _ _ _ _ _ _ _ _ _ _ _ _ _ _ _ _ _ _ _ _ _ _ _ _ _ _ _ _ _ _ _ _ _ _ _ _ _ _ _ _ _ _ _ _ _ _ _ _ _ _ _ _ _ _ _ _ _ _ _ _ B4.out ?_
        intro w' kw
        refine ⟨KE.out _ (K4.out.trans kw (fun _ _ e => e)), { headR bs with prof := g16 bs m, exts := ys }, _, _, _, _, _, _, _, _, rfl, .inr (.inr ⟨m + 4 + 4 * 0, ?_, ?_, rfl, _, _, rfl, ?_, ?_⟩)⟩
        · have := HG.out; rw [← HM.out] at this; exact this
        · omega
        · show Rd w' _ 1 (.slice A1 k c1) (srcsR bs).length (U32 (srcsR bs))
          rw [srcsR_len, ← HCC.out]
          exact (S4.out.keep kw (fun i hi hp e => (HPS.out i hp).1 e)).mono (fun i _ hi => HQ1.out i hi)
        · refine (X4.out.keep kw (fun i hi hp e => ?_)).mono (fun i _ hi => hi.elim (fun hi => HQ3.out i (by have := HK0.out.size; have : w3.heap.size ≤ i := hi; omega)) (HQ2.out i))
          rcases hp with hp | hp
          · have hl3 := B3.out.lt; have hp1 : w3.heap.size ≤ i := hp; omega
          · exact (HPG.out i hp).1 e
    · have h1 : (m : Int) + 4 ≤ (m : Int) + 4 + 4 * (L : Int) := by omega
      have h2 : (m : Int) + 4 + 4 * (L : Int) ≤ (c : Int) := by omega
      have h3 : ((m : Int) + 4 + 4 * (L : Int)).toNat = m + 4 + 4 * L := by omega
      have h4 : ((m : Int) + 4).toNat = m + 4 := by omega
      have h5 : m + 4 + 4 * L - (m + 4) = 4 * L := by omega
      have rd := R3.out.sub (m + 4) (m + 4 + 4 * L) (by omega) (by omega) (some ⟨b, o + (m + 4), none⟩) (fun _ => rfl) (by simp)
      rw [h5] at rd
      have hI3 : IsB ((bs.drop (m + 4)).take (4 * L)) := fun x hx => HI.out x (List.mem_of_mem_drop (List.mem_of_mem_take hx))
      have hC3 := hide (sread_walk (h := { hdF bs with prof := g16 bs m }) (sv := .slice A1 k c1) w3 rd hI3 (by omega) B3.out (fun i hi => ⟨(HPG.out i hi).1, by have := (HPG.out i hi).2; omega⟩))
      have hc5 : ¬ c = m + 4 := hc4
      clear rd hI3
      go_wp2_with fail
      refine (hC3.out).mono ?_
      rintro e w4 hp4
      rcases hp4 with ⟨hex, rfl, ⟨A2, l2, c2, b4⟩, k4⟩ | ⟨ys, xv, hex, rfl, b4, x4, k4⟩
      · have B4 := hide b4
        have K4 := hide (K3.out.trans k4 (fun _ _ e => e))
        have HW := hide (readB_e3 (L := L) HCC.out HV2.out HX.out (by rw [← HM.out]; exact HLL.out) (by have := HL.out; have := HM.out; omega) (by rw [← HM.out]; exact hex))
        clear b4 k4 hex
        go_upto_region 22 with fail
        refine part_use (rh_r22 (h := { hdF bs with prof := g16 bs m }) (post := RhPost bs q w0) (by intro _ _ h; exact h) _ _ _ _ _ _ _ _ _ _ _ _ _ _ _ _ _ _ _ _ _ _ _ _ _ _ _ _ _ _ _ _ _ _ _ _ _ _ _ _ _ _ _ _ _ _ _ _ _ _ _ _ _ _ _ _ _ _ _ _ _ _ _ _ _ _ _ _ _ _ _ _ _ _ _ _ _ _ _ _ _ _ _ _ _ _ _ _ _ _ _ _ _ _ _ _ _ _ _ _ _ _ _ _ _ _ _ _ _ _ _ _ _ _ _ _ _ B4.out (fun w' k => ⟨KE.out _ (K4.out.trans k (fun _ _ e => e)), _, _, _, _, _, _, _, _, _, rfl, .inr (.inl ⟨HW.out, rfl⟩)⟩)) rfl rfl (by assumption)
      · have K4 := hide (K3.out.trans k4 (fun _ _ e => e))
        have HG := hide (readB_e4 (L := L) HCC.out HV2.out HX.out (by rw [← HM.out]; exact HLL.out) (by have := HL.out; have := HM.out; omega) (by rw [← HM.out]; exact hex))
        obtain ⟨A2, c2, rfl⟩ := x4.shape
        have B4 := hide b4
        have X4 := hide x4
        have S4 := hide (S3.out.keep k4 (fun i hi hp e => (HPS.out i hp).1 e))
        clear b4 k4 hex x4
        go_wp2_with fail
        refine HKK.out _ _ ?_
        refine part_seq (x := xOf (fromR Tryd.f30 24)) (y := yOf (fromR Tryd.f30 24)) (by kernel_rfl) ?_
        refine rh_r24 (h := { hdF bs with prof := g16 bs m }) (post := RhPost bs q w0) (by intro _ _ h; exact h) w4 _ _ _ _ _ _ _ _ _ _ _ _ _ _ _ _ _ _ _ _ _ _ _ _ _ _ _ _ _ _ _ _ _ _ _ _ _ _ _ _ _ _ _ _ _ _ _ _ _ _ _ _ _ _ _ _ _ _ _ _ _ _ _ _ _ _ _ _ _ _ _ _ _ _ _ _ _ _ _ _ _ _ _ _ _ _ _ _ _ _ _ _ _ _ _ _ _ _ _ _ _ _ _ _ _ _ _ _ _ _ _ _ _ _ _ B4.out ?_
        intro w' kw
        refine ⟨KE.out _ (K4.out.trans kw (fun _ _ e => e)), { headR bs with prof := g16 bs m, exts := ys }, _, _, _, _, _, _, _, _, rfl, .inr (.inr ⟨m + 4 + 4 * L, ?_, ?_, rfl, _, _, rfl, ?_, ?_⟩)⟩
        · have := HG.out; rw [← HM.out] at this; exact this
        · omega
        · show Rd w' _ 1 (.slice A1 k c1) (srcsR bs).length (U32 (srcsR bs))
          rw [srcsR_len, ← HCC.out]
          exact (S4.out.keep kw (fun i hi hp e => (HPS.out i hp).1 e)).mono (fun i _ hi => HQ1.out i hi)
        · refine (X4.out.keep kw (fun i hi hp e => ?_)).mono (fun i _ hi => hi.elim (fun hi => HQ3.out i (by have := HK0.out.size; have : w3.heap.size ≤ i := hi; omega)) (HQ2.out i))
          rcases hp with hp | hp
          · have hl3 := B3.out.lt; have hp1 : w3.heap.size ≤ i := hp; omega
          · exact (HPG.out i hp).1 e
end Go.Proofs.YtdmnflngafbobaaDoor
namespace Go.Proofs.YtdmnflngafbobaaDoor
open Go.RowKit
set_option linter.unusedVariables false
set_option linter.unusedSimpArgs false
set_option maxRecDepth 100000

theorem src_more (bs : List Int) {j k : Nat} (hk : k = cc bs) (hj : j < k) : U32 ((srcsR bs).take j) ++ [.int .u32 (g32 bs (12 + 4 * j))] = U32 ((srcsR bs).take (j + 1)) := by
  have hl := srcsR_len bs
  have hs : (srcsR bs)[j]? = some (g32 bs (12 + 4 * j)) := by
    unfold srcsR
    rw [List.getElem?_map, List.getElem?_range (by omega)]
    rfl
  obtain ⟨h1, h2⟩ := List.getElem?_eq_some_iff.1 hs
  rw [List.take_succ_eq_append_getElem h1, h2]
  simp [U32]

set_option maxHeartbeats 1600000 in
theorem rh_p7 {p qp : Nat → Prop} {bs : List Int} {n c b o g k m : Nat} {w0 : World} (w : World) (u1 u4 u5 u6 u7 u8 u9 u10 u11 u12 u13 u14 u15 u16 u17 u18 u19 u20 u21 u22 u23 u24 u25 u26 u27 u28 u29 u30 u31 u32 u33 u34 u35 u36 u37 u38 u39 u40 u41 u42 u43 u44 u45 u46 u47 u48 u49 u50 u51 u52 u53 u54 u55 u56 u57 u58 u59 u60 u61 u62 u63 u64 u65 u66 u67 u68 u69 u70 u71 u72 u73 u74 u75 u76 u77 u78 u79 u80 u81 u82 u83 u84 u85 u86 u87 u88 u89 u90 u91 u92 u93 u94 u95 u96 u97 u98 u99 u100 u101 u102 u103 u104 u105 u106 u107 u108 u109 u110 u111 u112 u113 u114 u115 u116 : Value)
    (hR : Rd w p 1 (.slice (some ⟨b, o, none⟩) n c) n (B8 bs)) (hI : IsB bs) (hk : k = cc bs) (hm : m = 12 + 4 * k) (hn : m ≤ n) (hnm : n ≤ 2147483647) (hB : Blk w g 27 (hcells (hdF bs) (.slice none 0 0) (.slice none 0 0))) (hpg : ∀ i, p i → i ≠ g ∧ i < w.heap.size) (hK0 : Keep w0 w Nul) (hg0 : w0.heap.size ≤ g) (hq2 : ∀ i, p i → qp i) (hq3 : ∀ i, w0.heap.size ≤ i → qp i) :
    (yOf (fromR Tryd.f30 6)).wp Tryd.prog (bodyPost Tryd.prog Tryd.f30 (RhPost bs qp w0)) ⟨List.toArray (.slice (some ⟨b, o, none⟩) n c :: u1 :: .pointer (some ⟨g, 0, none⟩) :: .int .i64 (m : Int) :: u4 :: u5 :: u6 :: u7 :: u8 :: u9 :: u10 :: u11 :: u12 :: u13 :: u14 :: u15 :: u16 :: u17 :: u18 :: u19 :: u20 :: u21 :: u22 :: u23 :: u24 :: u25 :: u26 :: u27 :: u28 :: u29 :: u30 :: u31 :: u32 :: u33 :: u34 :: u35 :: u36 :: u37 :: u38 :: u39 :: u40 :: u41 :: u42 :: u43 :: u44 :: u45 :: u46 :: u47 :: u48 :: u49 :: u50 :: u51 :: u52 :: u53 :: u54 :: u55 :: u56 :: u57 :: u58 :: u59 :: u60 :: u61 :: u62 :: u63 :: u64 :: u65 :: u66 :: u67 :: u68 :: u69 :: u70 :: u71 :: u72 :: u73 :: u74 :: u75 :: u76 :: u77 :: u78 :: u79 :: u80 :: u81 :: u82 :: u83 :: u84 :: u85 :: u86 :: u87 :: u88 :: u89 :: u90 :: u91 :: u92 :: u93 :: u94 :: u95 :: u96 :: u97 :: u98 :: u99 :: u100 :: u101 :: u102 :: u103 :: u104 :: u105 :: u106 :: u107 :: u108 :: u109 :: u110 :: u111 :: u112 :: u113 :: u114 :: u115 :: u116 :: []), []⟩ w := by
  have HK0 := hide hK0
  have HQ2 := hide hq2
  have HQ3 := hide hq3
  clear hq2 hq3
  have HR := hide hR
  have HB := hide hB
  have HI := hide hI
  have HPG := hide hpg
  have HK := hide hk
  have HM := hide hm
  have hl : bs.length = n := by have := hR.len; rwa [B8_len] at this
  have HL := hide hl
  obtain ⟨_, _, _, hvv, hnc, hcm, hpb, hbw, hcc⟩ := hR.lit (by omega)
  clear hcc
  injection hvv with e1 _ e3
  injection e1 with e1
  injection e1 with e1 e2
  subst e1 e2 e3
  have hgw := hB.lt
  have hk15 : k ≤ 15 := by rw [hk]; unfold cc; omega
  clear hK0 hR hB hI hpg hk hm hl
  generalize hc : fromR Tryd.f30 6 = c9
  conv at hc => lhs; whnf
  subst hc
  dsimp only [yOf]
  go_wp2_with fail
  go_loopw [5] (fun s5 wr => ∃ (j i : Nat) (sv : Value), j ≤ k ∧ i = 12 + 4 * j ∧ s5 = .int .i64 (i : Int) ∧ Blk wr g 27 (hcells (hdF bs) sv (.slice none 0 0)) ∧ Own wr w.heap.size 23 1 sv j (U32 ((srcsR bs).take j)) ∧ Keep w wr (fun i => i = g ∨ w.heap.size ≤ i)) (fun s5 _ => m - (intOf s5).toNat)
  case atStart => exact ⟨0, 12, .slice none 0 0, Nat.zero_le _, rfl, rfl, HB.out, Own.nil_ _ _ _ _, Keep.refl _ _⟩
  case round =>
    obtain ⟨j, q, sv, hj, hi, rfl, hBr, hO, hK⟩ := hrel
    have BR := hide hBr
    have OO := hide hO
    have KK := hide hK
    have HQI := hide hi
    obtain ⟨Au, cu, rfl⟩ := hO.rd.shape
    have hzr := hK.size
    by_cases hlt : j < k
    · have RR := hide (HR.out.keep hK (fun i _ hi e => by have := HPG.out i hi; omega))
      have hqm : (q : Int) < (m : Int) := by have := HM.out; omega
      have hqn : q + 4 ≤ n := by have := HM.out; omega
      have n1 : ¬ c = q := by omega
      have n2 : (q : Int) ≤ (n : Int) := by omega
      have n3 : q ≤ n := by omega
      have hg32 : g32 bs q = g32 bs (12 + 4 * j) := by rw [hi]
      have HG32 := hide hg32
      have t8 := hBr.cell 8 (v := .slice Au j cu) rfl
      have lg := hBr.lt
      have HNG := hide (show ¬ (Value.slice Au j cu).ownBlock = some g from fun e => by have := (hO.at_ g e).1; omega)
      have HOB := hide (fun q e => (hO.at_ q e).1)
      have hC := hide (su32_at wr.drew RR.out.drew HI.out q (k := n - q) (c' := c - q) (by omega) (by omega) (by omega))
      clear hi hBr hO hK hg32
      go_upto_region 10 with fail
      refine wp_region_noPanic ?_
      refine region_last' (S := fun w' => w'.cell? ⟨g, 8, none⟩ = some (.slice Au j cu)) (by kernel_rfl) (by kernel_rfl) (by simp only [List.dropLast_cons_cons, List.dropLast_singleton]; rfl) (by simp only [List.getLast?_cons_cons, List.getLast?_singleton]; rfl) (t8) (fun hHeld => ?_)
      simp only [List.length_cons, List.length_nil, Nat.reduceAdd, Nat.zero_add]
      refine wpAnyH_take (i := 0) (v := ?_) (by simp only [List.getElem?_toArray, List.getElem?_cons_succ, List.getElem?_cons_zero]; rfl) (by kernel_rfl) (by kernel_rfl) (by kernel_rfl) (fun _ _ _ h => h) (Or.inl ⟨by rfl, ?_⟩) (by assumption) ?_
      rotate_left 1
      · (intro w hSw; (try dsimp only at hSw); go_simp; (try with_reducible rfl))
      try simp only [Act.put, List.setIfInBounds_toArray, List.set_cons_zero, List.set_cons_succ]
      refine wpAnyH_take (i := 1) (v := ?_) (by simp only [List.getElem?_toArray, List.getElem?_cons_succ, List.getElem?_cons_zero]; rfl) (by kernel_rfl) (by kernel_rfl) (by kernel_rfl) (fun _ _ _ h => h) (Or.inl ⟨by rfl, ?_⟩) (by assumption) ?_
      rotate_left 1
      · (intro w hSw; (try dsimp only at hSw); go_simp; (try with_reducible rfl))
      try simp only [Act.put, List.setIfInBounds_toArray, List.set_cons_zero, List.set_cons_succ]
      refine wpAnyH_take (i := 2) (v := ?_) (by simp only [List.getElem?_toArray, List.getElem?_cons_succ, List.getElem?_cons_zero]; rfl) (by kernel_rfl) (by kernel_rfl) (by kernel_rfl) (fun _ _ _ h => h) (Or.inl ⟨by rfl, ?_⟩) (by assumption) ?_
      rotate_left 1
      · (intro w hSw; (try dsimp only at hSw); go_simp; (try with_reducible rfl))
      try simp only [Act.put, List.setIfInBounds_toArray, List.set_cons_zero, List.set_cons_succ]
      refine wpAnyH_take (i := 3) (v := ?_) (by simp only [List.getElem?_toArray, List.getElem?_cons_succ, List.getElem?_cons_zero]; rfl) (by kernel_rfl) (by kernel_rfl) (by kernel_rfl) (fun _ _ _ h => h) (Or.inl ⟨by rfl, ?_⟩) (by assumption) ?_
      rotate_left 1
      · (intro w hSw; (try dsimp only at hSw); go_simp; (try with_reducible rfl))
      try simp only [Act.put, List.setIfInBounds_toArray, List.set_cons_zero, List.set_cons_succ]
      refine wpAnyH_take (i := 4) (v := ?_) (by simp only [List.getElem?_toArray, List.getElem?_cons_succ, List.getElem?_cons_zero]; rfl) (by kernel_rfl) (by kernel_rfl) (by kernel_rfl) (fun _ _ _ h => h) (Or.inl ⟨by rfl, ?_⟩) (by assumption) ?_
      rotate_left 1
      · (intro w hSw; (try dsimp only at hSw); go_simp; (try with_reducible rfl))
      try simp only [Act.put, List.setIfInBounds_toArray, List.set_cons_zero, List.set_cons_succ]
      refine wpAnyH_ready (rs := [5]) (by kernel_rfl) (by simp) ?_
      refine AllReadyH.cons (by simp only [List.getElem?_toArray, List.getElem?_cons_succ, List.getElem?_cons_zero]; rfl) (fun K hK => ?_) AllReadyH.nil
      go_simp
      go_at_call 68
      refine (hC.out).mono ?_
      rintro e w1 ⟨rfl, k1⟩
      have hb1 := BR.out.drew.keep k1 id
      have ho1 := OO.out.drew.keep0 k1
      have z1 : wr.heap.size ≤ w1.heap.size := k1.size
      simp only []
      refine hK.out _ _ (hb1.cell 8 rfl) (fun hHeld => ?_)
      clear hK K
      try simp only [Act.put, List.setIfInBounds_toArray, List.set_cons_zero, List.set_cons_succ]
      refine wpAnyH_ready (rs := [6]) (by kernel_rfl) (by simp) ?_
      refine AllReadyH.cons (by simp only [List.getElem?_toArray, List.getElem?_cons_succ, List.getElem?_cons_zero]; rfl) (fun K hK => ?_) AllReadyH.nil
      go_simp
      refine hK.out _ _ ((hb1.alloc _).cell 8 rfl) (fun hHeld => ?_)
      clear hK K
      try simp only [Act.put, List.setIfInBounds_toArray, List.set_cons_zero, List.set_cons_succ]
      refine wpAnyH_ready (rs := [7]) (by kernel_rfl) (by simp) ?_
      refine AllReadyH.cons (by simp only [List.getElem?_toArray, List.getElem?_cons_succ, List.getElem?_cons_zero]; rfl) (fun K hK => ?_) AllReadyH.nil
      refine step_app etU (by rfl) _ _ (by rfl) (ho1.alloc _) (by rfl) (src_one (w := w1) (g := w1.heap.size) (cs := #[.int .u32 (g32 bs q)]) Tryd.underlying24 rfl rfl (by intro u hu; simp at hu; rcases hu with rfl; rfl)) (by rfl) (by simp only [maxLen]; omega) (by omega) (by simp only [World.size_alloc]; omega) ?_
      intro v3 w3 o3 k3 b3 z3 _
      have hb3 := (hb1.alloc _).keep k3 HNG.out
      have f8 := hb3.free 8
      have g8' := hb3.cell 8 (v := .slice Au j cu) rfl
      have l3 := hb3.lt
      obtain ⟨A5, c5, rfl⟩ := o3.rd.shape
      refine hK.out _ _ (hb3.cell 8 rfl) (fun hHeld => ?_)
      clear hK K
      try simp only [Act.put, List.setIfInBounds_toArray, List.set_cons_zero, List.set_cons_succ]
      refine wpAnyH_take (i := 8) (v := ?_) (by simp only [List.getElem?_toArray, List.getElem?_cons_succ, List.getElem?_cons_zero]; rfl) (by kernel_rfl) (by kernel_rfl) (by kernel_rfl) (fun _ _ _ h => h) (Or.inl ⟨by rfl, ?_⟩) (by assumption) ?_
      rotate_left 1
      · (intro w hSw; (try dsimp only at hSw); go_simp; (try with_reducible rfl))
      try simp only [Act.put, List.setIfInBounds_toArray, List.set_cons_zero, List.set_cons_succ]
      refine wpAnyH_done (by kernel_rfl) ?_ _
      intro K hK
      have kst : Keep w3 (w3.setCell ⟨g, 8, none⟩ (.slice A5 (j + 1) c5)) (· = g) := Keep.set1 _ _ _ _
      have hb4 := hide (show Blk (w3.setCell ⟨g, 8, none⟩ (.slice A5 (j + 1) c5)) g 27 (hcells (hdF bs) (.slice A5 (j + 1) c5) (.slice none 0 0)) from hb3.set_ 8 (.slice A5 (j + 1) c5))
      have ho4 := hide (o3.keep kst (fun q hq e => by have := (o3.at_ q hq).1; omega))
      have k13 : Keep wr w3 (fun q => (Value.slice Au j cu).ownBlock = some q) := (((((Keep.refl wr _).drew).trans0 k1).alloc _).trans k3 fun _ _ e => e)
      have k14 : Keep wr (w3.setCell ⟨g, 8, none⟩ (.slice A5 (j + 1) c5)) (fun i => i = g ∨ w.heap.size ≤ i) := (k13.mono (fun i _ e => .inr (HOB.out i e))).setg 8 (fun _ => .inl rfl) _
      have hk4 := hide (KK.out.trans k14 (fun _ _ e => e))
      clear k13 k14 kst o3 k3 b3 z3 hb3 hb1 ho1 k1 hHeld
      go_simp
      refine hK _ _ (NoPanic.normal ?_)
      clear hK K
      go_wp2_with fail
      go_roundw
      case rel => exact ⟨j + 1, q + 4, _, by omega, by have := HQI.out; omega, by go_num, hb4.out, by have := ho4.out; rw [HG32.out] at this; rw [← src_more bs HK.out hlt]; exact this, hk4.out⟩
      case measure => have := HQI.out; have := HM.out; simp [intOf]; omega
    · obtain rfl : j = k := by omega
      have hqm : ¬ (q : Int) < (m : Int) := by have := HM.out; omega
      have ht : (srcsR bs).take j = srcsR bs := List.take_of_length_le (by rw [srcsR_len, HK.out]; exact Nat.le_refl _)
      rw [ht] at OO
      have hoat := fun q e => hO.at_ q e
      have x0 := hBr.cell 0 (v := .int .u8 (g8 bs 0 / 64)) rfl
      have x2 := hBr.cell 2 (v := .bool (headR bs).ext) rfl
      have KE := hide (show ∀ w', Keep w w' (fun i => i = g ∨ w.heap.size ≤ i) → Keep w0 w' Nul from fun w' k => HK0.out.trans k (fun i hi e => e.elim (fun e => by omega) (fun e => by have := HK0.out.size; omega)))
      have HOAT := hide hoat
      clear hi hBr hO hK ht hoat
      by_cases hv : g8 bs 0 / 64 = 2
      · have s1 : (g8 bs 0 / 64 != 2) = false := by simp [hv]
        have HV2 := hide hv
        clear hv
        cases hx : (headR bs).ext
        · rw [hx] at x2
          have HG := hide (readB_n HK.out (by have := HL.out; have := HM.out; omega) HV2.out hx)
          clear hx
          go_upto_region 24 with fail
          refine part_use (rh_r24 (m := m) (h := hdF bs) (post := RhPost bs qp w0) (by intro _ _ h; exact h) wr _ _ _ _ _ _ _ _ _ _ _ _ _ _ _ _ _ _ _ _ _ _ _ _ _ _ _ _ _ _ _ _ _ _ _ _ _ _ _ _ _ _ _ _ _ _ _ _ _ _ _ _ _ _ _ _ _ _ _ _ _ _ _ _ _ _ _ _ _ _ _ _ _ _ _ _ _ _ _ _ _ _ _ _ _ _ _ _ _ _ _ _ _ _ _ _ _ _ _ _ _ _ _ _ _ _ _ _ _ _ _ _ _ _ _ BR.out ?_) rfl rfl (by assumption)
          intro w' kw
          refine ⟨KE.out _ (KK.out.trans (kw.mono (fun i _ e => .inl e)) (fun _ _ e => e)), headR bs, _, _, _, _, _, _, _, _, rfl, .inr (.inr ⟨m, ?_, rfl, rfl, _, _, rfl, ?_, XR.nil_ _ _⟩)⟩
          · rw [HM.out]; exact HG.out
          · show Rd w' _ 1 (.slice Au j cu) (srcsR bs).length (U32 (srcsR bs))
            rw [srcsR_len, ← HK.out]
            exact (OO.out.keep kw (fun i hi e => by have := HOAT.out i hi; omega)).rd.mono (fun i _ hi => HQ3.out i (by have := (HOAT.out i hi).1; have := HK0.out.size; omega))
        · rw [hx] at x2
          have HX := hide hx
          clear hx
          by_cases hl4 : n < m + 4
          · have hl5 : (n : Int) < (m : Int) + 4 := by omega
            have HBAD := hide (readB_e1 HK.out (by have := HL.out; have := HM.out; omega) HV2.out HX.out (by have := HL.out; have := HM.out; omega))
            go_upto_region 15 with fail
            refine part_use (rh_r15 (h := hdF bs) (post := RhPost bs qp w0) (by intro _ _ h; exact h) wr _ _ _ _ _ _ _ _ _ _ _ _ _ _ _ _ _ _ _ _ _ _ _ _ _ _ _ _ _ _ _ _ _ _ _ _ _ _ _ _ _ _ _ _ _ _ _ _ _ _ _ _ _ _ _ _ _ _ _ _ _ _ _ _ _ _ _ _ _ _ _ _ _ _ _ _ _ _ _ _ _ _ _ _ _ _ _ _ _ _ _ _ _ _ _ _ _ _ _ _ _ _ _ _ _ _ _ _ _ _ _ _ _ _ _ _ BR.out (fun w' k => ⟨KE.out _ (KK.out.trans (k.mono (fun i _ e => .inl e)) (fun _ _ e => e)), _, _, _, _, _, _, _, _, _, rfl, .inl ⟨HBAD.out, rfl⟩⟩)) rfl rfl (by assumption)
          · have hl5 : ¬ (n : Int) < (m : Int) + 4 := by omega
            have HRr := hide (HR.out.keep KK.out (fun i _ hi e => by have := HPG.out i hi; omega))
            go_upto_region 16 with fail
            refine part_use (rh_p16 (p := p) (ps := fun i => (Value.slice Au j cu).ownBlock = some i) (k := j) (w0 := w0) wr _ _ _ _ _ _ _ _ _ _ _ _ _ _ _ _ _ _ _ _ _ _ _ _ _ _ _ _ _ _ _ _ _ _ _ _ _ _ _ _ _ _ _ _ _ _ _ _ _ _ _ _ _ _ _ _ _ _ _ _ _ _ _ _ _ _ _ _ _ _ _ _ _ _ _ _ _ _ _ _ _ _ _ _ _ _ _ _ _ _ _ _ _ _ _ _ _ _ _ _ _ _ _ _ _ _ _ _ _ _ _ _ _ _ (by assumption) HRr.out HI.out HK.out HM.out (by omega) hnm HV2.out HX.out BR.out OO.out.rd (fun i hi => by have := HOAT.out i hi; omega) (fun i hi => by have := HPG.out i hi; omega) (KE.out _ KK.out) hg0 (fun i hi => HQ3.out i (by have := (HOAT.out i hi).1; have := HK0.out.size; omega)) HQ2.out HQ3.out) rfl rfl (by assumption)
      · have s1 : (g8 bs 0 / 64 != 2) = true := by simpa using hv
        have HW := hide (readB_v HK.out (by have := HL.out; have := HM.out; omega) hv)
        clear hv
        go_upto_region 12 with fail
        refine part_use (rh_r12 (h := hdF bs) (post := RhPost bs qp w0) (by intro _ _ h; exact h) wr _ _ _ _ _ _ _ _ _ _ _ _ _ _ _ _ _ _ _ _ _ _ _ _ _ _ _ _ _ _ _ _ _ _ _ _ _ _ _ _ _ _ _ _ _ _ _ _ _ _ _ _ _ _ _ _ _ _ _ _ _ _ _ _ _ _ _ _ _ _ _ _ _ _ _ _ _ _ _ _ _ _ _ _ _ _ _ _ _ _ _ _ _ _ _ _ _ _ _ _ _ _ _ _ _ _ _ _ _ _ _ _ _ _ _ _ BR.out (fun w' k => ⟨KE.out _ (KK.out.trans (k.mono (fun i _ e => .inl e)) (fun _ _ e => e)), _, _, _, _, _, _, _, _, _, rfl, .inr (.inl ⟨HW.out, rfl⟩)⟩)) rfl rfl (by assumption)

set_option maxHeartbeats 1600000 in
/-- The reference's read of a header. -/
theorem rh_walk {p : Nat → Prop} {bs : List Int} {n c : Nat} {A : Option Addr} (w0 : World) (hR : Rd w0 p 1 (.slice A n c) n (B8 bs)) (hI : IsB bs) (hnm : n ≤ 2147483647) :
    Calls Tryd.prog 30 #[.slice A n c] w0 (RhPost bs (fun i => p i ∨ w0.heap.size ≤ i) w0) := by
  replace hR := hR.mono (q := fun k => p k ∧ k < w0.heap.size) (fun k hk hp => ⟨hp, hk⟩)
  generalize hqq : (fun i => p i ∨ w0.heap.size ≤ i) = qp
  have HQ2 := hide (show ∀ i, (p i ∧ i < w0.heap.size) → qp i from fun i hi => by subst hqq; exact .inl hi.1)
  have HQ3 := hide (show ∀ i, w0.heap.size ≤ i → qp i from fun i hi => by subst hqq; exact .inr hi)
  clear hqq
  have HR := hide hR
  have HI := hide hI
  have hl : bs.length = n := by have := hR.len; rwa [B8_len] at this
  have HL := hide hl
  clear hI hl
  by_cases h12 : n < 12
  · have h12' : (n : Int) < 12 := by omega
    have HBAD := hide (show readB bs = .bad by unfold readB; rw [if_pos (by have := HL.out; omega)])
    clear hR
    go_enter Tryd.func30, Tryd.ntmps30
    go_upto_region 2 with fail
    generalize hw1 : World.alloc w0 _ = w1
    have B1 := hide (show Blk w1 w0.heap.size 27 (hcells hd0 (.slice none 0 0) (.slice none 0 0)) by subst hw1; exact Blk.new w0 _ _)
    have K1 := hide (show Keep w0 w1 Nul by subst hw1; exact (Keep.refl w0 Nul).alloc _)
    clear hw1
    refine part_use (rh_r2 (h := hd0) (post := RhPost bs qp w0) (by intro _ _ h; exact h) w1 _ _ _ _ _ _ _ _ _ _ _ _ _ _ _ _ _ _ _ _ _ _ _ _ _ _ _ _ _ _ _ _ _ _ _ _ _ _ _ _ _ _ _ _ _ _ _ _ _ _ _ _ _ _ _ _ _ _ _ _ _ _ _ _ _ _ _ _ _ _ _ _ _ _ _ _ _ _ _ _ _ _ _ _ _ _ _ _ _ _ _ _ _ _ _ _ _ _ _ _ _ _ _ _ _ _ _ _ _ _ _ _ _ _ _ _ B1.out (fun w' k => ⟨K1.out.trans k (fun i hi e => by omega), _, _, _, _, _, _, _, _, _, rfl, .inl ⟨HBAD.out, rfl⟩⟩)) rfl rfl (by assumption)
  · have h12' : ¬ (n : Int) < 12 := by omega
    obtain ⟨b, o, c2, hvv, q1, q2, q3, q4, q5⟩ := hR.lit (by omega)
    injection hvv with e1 _ e3
    subst e1 e3
    have r0 := g8_rng HI.out 0
    have c0 : w0.cell? ⟨b, o, none⟩ = some (.int .u8 (g8 bs 0)) := q5 0 _ (B8_get (g8_of (bs := bs) (i := 0) (by have := HL.out; omega)))
    have hb := bit_15 (g8 bs 0) r0
    obtain ⟨k, hk⟩ : ∃ k, k = cc bs := ⟨_, rfl⟩
    have hki : g8 bs 0 % 16 = (k : Int) := by rw [hk]; unfold cc; omega
    rw [hki] at hb
    have hk15 : k ≤ 15 := by omega
    obtain ⟨m, hm⟩ : ∃ m, m = 12 + 4 * k := ⟨_, rfl⟩
    have hmi : (12 : Int) + 4 * (k : Int) = (m : Int) := by omega
    have HKC := hide hk
    have HM := hide hm
    clear hR q5 hk hki r0 hm
    by_cases hlt : n < m
    · have hlt' : (n : Int) < (m : Int) := by omega
      have HBAD := hide (show readB bs = .bad by unfold readB; rw [if_neg (by have := HL.out; omega), if_pos (by rw [← HKC.out, HL.out, ← HM.out]; exact hlt)])
      go_enter Tryd.func30, Tryd.ntmps30
      go_upto_region 5 with fail
      generalize hw1 : World.alloc w0 _ = w1
      have B1 := hide (show Blk w1 w0.heap.size 27 (hcells hd0 (.slice none 0 0) (.slice none 0 0)) by subst hw1; exact Blk.new w0 _ _)
      have K1 := hide (show Keep w0 w1 Nul by subst hw1; exact (Keep.refl w0 Nul).alloc _)
      clear hw1
      refine part_use (rh_r5 (h := hd0) (post := RhPost bs qp w0) (by intro _ _ h; exact h) w1 _ _ _ _ _ _ _ _ _ _ _ _ _ _ _ _ _ _ _ _ _ _ _ _ _ _ _ _ _ _ _ _ _ _ _ _ _ _ _ _ _ _ _ _ _ _ _ _ _ _ _ _ _ _ _ _ _ _ _ _ _ _ _ _ _ _ _ _ _ _ _ _ _ _ _ _ _ _ _ _ _ _ _ _ _ _ _ _ _ _ _ _ _ _ _ _ _ _ _ _ _ _ _ _ _ _ _ _ _ _ _ _ _ _ _ _ B1.out (fun w' k => ⟨K1.out.trans k (fun i hi e => by omega), _, _, _, _, _, _, _, _, _, rfl, .inl ⟨HBAD.out, rfl⟩⟩)) rfl rfl (by assumption)
    · have hlt' : ¬ (n : Int) < (m : Int) := by omega
      go_enter Tryd.func30, Tryd.ntmps30
      go_upto_region 6 with fail
      generalize hw1 : World.alloc w0 _ = w1
      have B1 := hide (show Blk w1 w0.heap.size 27 (hcells hd0 (.slice none 0 0) (.slice none 0 0)) by subst hw1; exact Blk.new w0 _ _)
      have K1 := hide (show Keep w0 w1 Nul by subst hw1; exact (Keep.refl w0 Nul).alloc _)
      clear hw1
      refine part_use (rh_p6 (p := fun k => p k ∧ k < w0.heap.size) (bs := bs) w1 _ _ _ _ _ _ _ _ _ _ _ _ _ _ _ _ _ _ _ _ _ _ _ _ _ _ _ _ _ _ _ _ _ _ _ _ _ _ _ _ _ _ _ _ _ _ _ _ _ _ _ _ _ _ _ _ _ _ _ _ _ _ _ _ _ _ _ _ _ _ _ _ _ _ _ _ _ _ _ _ _ _ _ _ _ _ _ _ _ _ _ _ _ _ _ _ _ _ _ _ _ _ _ _ _ _ _ _ _ _ _ _ _ _ _ ?_ (HR.out.keep0 K1.out) HI.out (by omega) B1.out (fun i (hi : p i ∧ i < w0.heap.size) => by omega)) rfl rfl (by assumption)
      intro w2 v23 v24 v25 v26 v27 v28 v29 v30 v31 v32 v33 v34 v35 v36 v37 v38 v39 v40 v41 v42 v43 v44 v45 v46 v47 v48 v49 v50 v51 v52 v53 v54 v55 B2 K2
      have hz := K1.out.size
      have hz2 := K2.size
      have hl1 := B1.out.lt
      exact rh_p7 (p := fun k => p k ∧ k < w0.heap.size) (k := k) (m := m) w2 _ _ _ _ _ _ _ _ _ _ _ _ _ _ _ _ _ _ _ _ _ _ _ _ _ _ _ _ _ _ _ _ _ _ _ _ _ _ _ _ _ _ _ _ _ _ _ _ _ _ _ _ _ _ _ _ _ _ _ _ _ _ _ _ _ _ _ _ _ _ _ _ _ _ _ _ _ _ _ _ _ _ _ _ _ _ _ _ _ _ _ _ _ _ _ _ _ _ _ _ _ _ _ _ _ _ _ _ _ _ _ _ _ _ ((HR.out.keep0 K1.out).keep K2 (fun i _ (hi : p i ∧ i < w0.heap.size) e => by omega)) HI.out HKC.out HM.out (by omega) hnm B2 (fun i (hi : p i ∧ i < w0.heap.size) => by omega) (K1.out.trans K2 (fun i hi e => by omega)) (Nat.le_refl _) HQ2.out HQ3.out
end Go.Proofs.YtdmnflngafbobaaDoor
