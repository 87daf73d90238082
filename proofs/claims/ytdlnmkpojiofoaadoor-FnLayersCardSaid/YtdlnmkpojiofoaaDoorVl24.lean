/-
  VLA.unmarshalTemporalLayers: the rates are read. Conditions: those that stand in each theorem.
-/
import Derived.Test.YtdlnmkpojiofoaaDoorVl23
namespace Go.Proofs.YtdlnmkpojiofoaaDoor
open Go.RowKit
set_option linter.unusedVariables false
set_option linter.unusedSimpArgs false
set_option maxRecDepth 100000

set_option maxHeartbeats 6400000 in
theorem ut_p22 {P : Pv} {b o n c gv gu B c2 : Nat} {A2 : Option Addr} {gs : List Nat} {Q : Exit → Act → World → Prop} (w : World) (u2 u3 u4 u5 u6 u7 u8 u9 u10 u11 u12 u13 u14 u15 u16 u17 u18 u19 u20 u21 u22 u23 u24 u25 u26 u27 u28 u29 u30 u31 u32 u33 u34 u35 u36 u37 u38 u39 u40 u41 u42 u43 u44 u45 u46 u47 u48 u49 u50 u51 u52 u53 u54 u55 u56 u57 u58 u59 u60 u61 u62 u63 u64 u65 u66 u67 u68 u69 u70 u71 u72 u73 u74 u75 u76 u77 u78 u79 u80 u81 u82 u83 u84 u85 u86 u87 u88 u89 u90 u91 u92 u93 u94 u95 u96 u97 u98 u99 u100 u101 u102 u103 u104 u105 u106 u107 u108 u109 u110 u111 u112 u113 u114 u115 u116 u117 u118 u119 u120 u121 u122 u123 u124 u125 u126 u127 u128 u129 u130 u131 u132 u133 u134 u135 u136 u137 u138 u139 u140 u141 u142 u143 u144 u145 u146 u147 u148 u149 u150 u151 u152 u153 u154 u155 u156 u157 u158 : Value)
    (R : RD w P b o gv gu B) (hn : n = P.len) (hnc : n ≤ c) (hcm : c ≤ maxLen) (hv : Blk w gv 69 (P.vv (.slice A2 P.L c2) false)) (hu : Blk w gu 88 (uctV (some ⟨b, o, none⟩) n c ((1 + P.tl : Nat) : Int) P.cm (mbL P.K P.L)))
    (hlq : LQ w B P.l0 P.rs.length (.slice A2 P.L c2) P.L gs (val0 P.rs.length))
    (hQ : ∀ (w' : World) (u2 u3 u4 u5 u6 u7 u8 u9 u10 u11 u12 u13 u14 u15 u16 u17 u18 u19 u20 u21 u22 u23 u24 u25 u26 u27 u28 u29 u30 u31 u32 u33 u34 u35 u36 u37 u38 u39 u40 u41 u42 u43 u44 u45 u46 u47 u48 u49 u50 u51 u52 u53 u54 u55 u56 u57 u58 u59 u60 u61 u62 u63 u64 u65 u66 u67 u68 u69 u70 u71 u72 u73 u74 u75 u76 u77 u78 u79 u80 u81 u82 u83 u84 u85 u86 u87 u88 u89 u90 u91 u92 u93 u94 u95 u96 u97 u98 u99 u100 u101 u102 u103 u104 u105 u106 u107 u108 u109 u110 u111 u112 u113 u114 u115 u116 u117 u118 u119 u120 u121 u122 u123 u124 u125 u126 u127 u128 u129 u130 u131 u132 u133 u134 u135 u136 u137 u138 u139 u140 u141 u142 u143 u144 u145 u146 u147 u148 u149 u150 u151 u152 u153 u154 u155 u156 u157 u158 : Value), Blk w' gv 69 (P.vv (.slice A2 P.L c2) false) → Blk w' gu 88 (uctV (some ⟨b, o, none⟩) n c ((1 + P.tl + P.L * sumN P.rs : Nat) : Int) P.cm (mbL P.K P.L)) → LQ w' B P.l0 P.rs.length (.slice A2 P.L c2) P.L gs (valF P.rs P.L 0) → Keep w w' (fun x => x = gu ∨ B ≤ x) → Q .normal ⟨List.toArray (.pointer (some ⟨gv, 0, none⟩) :: .pointer (some ⟨gu, 0, none⟩) :: u2 :: u3 :: u4 :: u5 :: u6 :: u7 :: u8 :: u9 :: u10 :: u11 :: u12 :: u13 :: u14 :: u15 :: u16 :: u17 :: u18 :: u19 :: u20 :: u21 :: u22 :: u23 :: u24 :: u25 :: u26 :: u27 :: u28 :: u29 :: u30 :: u31 :: u32 :: u33 :: u34 :: u35 :: u36 :: u37 :: u38 :: u39 :: u40 :: u41 :: u42 :: u43 :: u44 :: u45 :: u46 :: u47 :: u48 :: u49 :: u50 :: u51 :: u52 :: u53 :: u54 :: u55 :: u56 :: u57 :: u58 :: u59 :: u60 :: u61 :: u62 :: u63 :: u64 :: u65 :: u66 :: u67 :: u68 :: u69 :: u70 :: u71 :: u72 :: u73 :: u74 :: u75 :: u76 :: u77 :: u78 :: u79 :: u80 :: u81 :: u82 :: u83 :: u84 :: u85 :: u86 :: u87 :: u88 :: u89 :: u90 :: u91 :: u92 :: u93 :: u94 :: u95 :: u96 :: u97 :: u98 :: u99 :: u100 :: u101 :: u102 :: u103 :: u104 :: u105 :: u106 :: u107 :: u108 :: u109 :: u110 :: u111 :: u112 :: u113 :: u114 :: u115 :: u116 :: u117 :: u118 :: u119 :: u120 :: u121 :: u122 :: u123 :: u124 :: u125 :: u126 :: u127 :: u128 :: u129 :: u130 :: u131 :: u132 :: u133 :: u134 :: u135 :: u136 :: u137 :: u138 :: u139 :: u140 :: u141 :: u142 :: u143 :: u144 :: u145 :: u146 :: u147 :: u148 :: u149 :: u150 :: u151 :: u152 :: u153 :: u154 :: u155 :: u156 :: u157 :: u158 :: []), []⟩ w') :
    Part Tryd.prog Tryd.f32 22 Q ⟨List.toArray (.pointer (some ⟨gv, 0, none⟩) :: .pointer (some ⟨gu, 0, none⟩) :: u2 :: u3 :: u4 :: u5 :: u6 :: u7 :: u8 :: u9 :: u10 :: u11 :: u12 :: u13 :: u14 :: u15 :: u16 :: u17 :: u18 :: u19 :: u20 :: u21 :: u22 :: u23 :: u24 :: u25 :: u26 :: u27 :: u28 :: u29 :: u30 :: u31 :: u32 :: u33 :: u34 :: u35 :: u36 :: u37 :: u38 :: u39 :: u40 :: u41 :: u42 :: u43 :: u44 :: u45 :: u46 :: u47 :: u48 :: u49 :: u50 :: u51 :: u52 :: u53 :: u54 :: u55 :: u56 :: u57 :: u58 :: u59 :: u60 :: u61 :: u62 :: u63 :: u64 :: u65 :: u66 :: u67 :: u68 :: u69 :: u70 :: u71 :: u72 :: u73 :: u74 :: u75 :: u76 :: u77 :: u78 :: u79 :: u80 :: u81 :: u82 :: u83 :: u84 :: u85 :: u86 :: u87 :: u88 :: u89 :: u90 :: u91 :: u92 :: u93 :: u94 :: u95 :: u96 :: u97 :: u98 :: u99 :: u100 :: u101 :: u102 :: u103 :: u104 :: u105 :: u106 :: u107 :: u108 :: u109 :: u110 :: u111 :: u112 :: u113 :: u114 :: u115 :: u116 :: u117 :: u118 :: u119 :: u120 :: u121 :: u122 :: u123 :: u124 :: u125 :: u126 :: u127 :: u128 :: u129 :: u130 :: u131 :: u132 :: u133 :: u134 :: u135 :: u136 :: u137 :: u138 :: u139 :: u140 :: u141 :: u142 :: u143 :: u144 :: u145 :: u146 :: u147 :: u148 :: u149 :: u150 :: u151 :: u152 :: u153 :: u154 :: u155 :: u156 :: u157 :: u158 :: []), []⟩ w := by
  have HQ := hide hQ
  have RR := hide R
  have HV := hide hv
  have HU := hide hu
  have HL := hide hlq
  have hL16 := R.ok.L16
  have hlb := R.ok.lenB
  have ht4 := R.ok.t4
  have ht1 := R.ok.t1
  have hlen : 1 + P.tl + P.L * sumN P.rs ≤ n := by rw [hn]; unfold Pv.len; omega
  have HNN := hide hn
  have hn4 : n ≤ 400 := by omega
  have nvu := R.vu
  have nbv := R.bv
  have nbu := R.bu
  have hBv := R.vB
  have hBu := R.uB
  have hbB := R.bB
  have v2 := hv.cell 2 (v := .slice A2 P.L c2) rfl
  have hgv := hv.lt
  clear hQ R hv hu hn hlq
  refine part_open (fun c0 hc K hK => ?_)
  conv at hc => rhs; whnf
  subst hc
  dsimp only [xOf, yOf] at hK ⊢
  go_wp2_with fail
  go_loopw [102] (fun s102 wr => ∃ l : Nat, l ≤ P.L ∧ s102 = .int .i64 (l : Int) ∧ Blk wr gu 88 (uctV (some ⟨b, o, none⟩) n c ((1 + P.tl + l * sumN P.rs : Nat) : Int) P.cm (mbL P.K P.L)) ∧ LQ wr B P.l0 P.rs.length (.slice A2 P.L c2) P.L gs (valF P.rs l 0) ∧ Keep w wr (fun x => x = gu ∨ B ≤ x)) (fun s102 _ => P.L - (intOf s102).toNat)
  case atStart => exact ⟨0, by omega, rfl, by simpa using HU.out, by rw [valF_zero]; exact HL.out, Keep.refl _ _⟩
  case round =>
    obtain ⟨l, hl, rfl, hbu, hlq, hk⟩ := hrel
    have HU1 := hide hbu
    have HL1 := hide hlq
    have HK1 := hide hk
    clear hbu hk v2
    by_cases hlt : l < P.L
    · have kl : (l : Int) < (P.L : Int) := by omega
      obtain ⟨gb, c', g, hve, hBg, hgbl, hLc, hgs, hBgg, hcell⟩ := hlq.at_ (l0_len P) hlt
      injection hve with e1 _ e3
      subst e1 e3
      have c0 := hcell 0 _ rfl
      have c1 := hcell 1 _ rfl
      have c2' := hcell 2 _ rfl
      have c3 := hcell 3 _ rfl
      have c4 := hcell 4 _ rfl
      have c5 := hcell 5 _ rfl
      unfold slI at c2'
      rw [Nat.add_zero] at c0
      have HGS := hide hgs
      have hlR : l * sumN P.rs + sumN P.rs ≤ P.L * sumN P.rs := by rw [← Nat.succ_mul]; exact Nat.mul_le_mul_right _ hlt
      have HLR := hide hlR
      generalize l / P.K = sI at *
      generalize l % P.K = kI at *
      clear hlq hcell hgs hlR
      go_wp2_with fail
      go_loopw [110] (fun s110 wi => ∃ j : Nat, j ≤ P.rs.length ∧ s110 = .int .i64 (j : Int) ∧ Blk wi gu 88 (uctV (some ⟨b, o, none⟩) n c ((1 + P.tl + l * sumN P.rs + sumN (P.rs.take j) : Nat) : Int) P.cm (mbL P.K P.L)) ∧ LQ wi B P.l0 P.rs.length (.slice (some ⟨gb, 0, none⟩) P.L c2) P.L gs (valF P.rs l j) ∧ Keep w wi (fun x => x = gu ∨ B ≤ x)) (fun s110 _ => P.rs.length - (intOf s110).toNat)
      case atStart => exact ⟨0, by omega, rfl, by simpa [sumN] using HU1.out.alloc _, HL1.out.keep0 ((Keep.refl _ Nul).alloc _), HK1.out.alloc _⟩
      case round =>
        obtain ⟨j, hj, rfl, hbu, hlq, hk⟩ := hrel
        have HU2 := hide hbu
        have HL2 := hide hlq
        have HK2 := hide hk
        have RR2 := hide (RR.out.keep hk (fun e => by rcases e with e | e <;> omega))
        have HV2 := hide (HV.out.keep hk (fun e => by rcases e with e | e <;> omega))
        by_cases hlt3 : j < P.rs.length
        · have kl3 : (j : Int) < (P.rs.length : Int) := by omega
          have hrj : P.rs[j]? = some P.rs[j] := List.getElem?_eq_getElem _
          have hrb := RR.out.ok.rs _ (List.getElem_mem hlt3)
          have htk : P.rs.take (j + 1) = P.rs.take j ++ [P.rs[j]] := List.take_succ_eq_append_getElem hlt3
          have hsn := sumN_snoc (P.rs.take j) P.rs[j]
          rw [← htk] at hsn
          have hst := sumN_take P.rs (j + 1)
          generalize P.rs[j] = r at *
          obtain ⟨rest, hrest⟩ := out_drop hlt hrj
          obtain ⟨x, hx⟩ : ∃ x, x = 1 + P.tl + l * sumN P.rs + sumN (P.rs.take j) := ⟨_, rfl⟩
          rw [← hx] at hrest
          have hlR := HLR.out
          have hNb := lebN_b r
          have hxn : x + lebN r ≤ n := by omega
          have hrd := RR2.out.rd (x := x) HNN.out hnc hcm (by omega)
          rw [hrest] at hrd
          have hR := hide (fun w1 (k : Keep _ w1 Nul) => rleb_walk w1 (hrd.keep0 k) hrb)
          rw [← hx] at HU2 hbu
          have u0 := hbu.cell 0 uct_0
          have u1 := hbu.cell 1 uct_1
          have hgu2 := hbu.lt
          have hgv2 := HV2.out.lt
          have v2 := HV2.out.cell 2 (v := .slice (some ⟨gb, 0, none⟩) P.L c2) rfl
          obtain ⟨gb', c'', g', hve, hBg', hgbl', hLc', hgs', hBgg', hcell⟩ := hlq.at_ (l0_len P) hlt
          injection hve with e1 _ e3
          injection e1 with e1
          injection e1 with e1
          subst e1 e3
          have hge : g' = g := by rw [HGS.out] at hgs'; injection hgs' with h; exact h.symm
          subst hge
          have d2 := hcell 2 _ rfl
          unfold slI at d2
          have hgb := (hlq.blk l _ hgs')
          have hgl := hgb.lt
          have hvl := valF_len P.rs l (j := j) hj
          have fr := hgb.free j
          have kx : (x : Int) ≤ (n : Int) := by omega
          have kx0 : (0 : Int) ≤ (x : Int) := by omega
          have kx1 : ¬ c = x := by omega
          have kx2 : x ≤ n := by omega
          have kx3 : x ≤ c := by omega
          have HRJ := hide hrj
          have HSN := hide hsn
          have HX := hide hx
          have hbb2 := RR2.out.bl
          clear hbu hlq hk hcell hrj hsn htk hrest hrd hx hgs' hst hlR
          have hR2 := hide (hR.out wr.drew ((Keep.refl wr Nul).drew))
          go_upto_region 28 with fail
          refine wp_region_noPanic ?_
          refine region_last2' (S := fun w' => w'.cell? ⟨gu, 0, none⟩ = some (.slice (some ⟨b, o, none⟩) n c) ∧ w'.cell? ⟨gu, 1, none⟩ = some (.int .i64 (x : Int))) (by kernel_rfl) (by kernel_rfl) (by simp only [List.dropLast_cons_cons, List.dropLast_singleton]; rfl) (by simp only [List.getLast?_cons_cons, List.getLast?_singleton]; rfl) (⟨u0, u1⟩) (fun hHeld => ?_)
          simp only [List.length_cons, List.length_nil, Nat.reduceAdd, Nat.zero_add]
          refine wpAnyH_take (i := 0) (v := ?_) (by simp only [List.getElem?_toArray, List.getElem?_cons_succ, List.getElem?_cons_zero]; rfl) (by kernel_rfl) (by kernel_rfl) (by kernel_rfl) (fun _ _ _ h => h) (Or.inl ⟨by rfl, ?_⟩) (by assumption) ?_
          rotate_left 1
          · (intro w hSw; (try dsimp only at hSw); go_simp; (try with_reducible rfl))
          try simp only [Act.put, List.setIfInBounds_toArray, List.set_cons_zero, List.set_cons_succ]
          refine wpAnyH_take (i := 1) (v := ?_) (by simp only [List.getElem?_toArray, List.getElem?_cons_succ, List.getElem?_cons_zero]; rfl) (by kernel_rfl) (by kernel_rfl) (by kernel_rfl) (fun _ _ _ h => h) (Or.inl ⟨by rfl, ?_⟩) (by assumption) ?_
          rotate_left 1
          · (intro w hSw; (try dsimp only at hSw); go_simp; (try with_reducible rfl))
          try simp only [Act.put, List.setIfInBounds_toArray, List.set_cons_zero, List.set_cons_succ]
          refine wpAnyH_take (i := 2) (v := ?_) (by simp only [List.getElem?_toArray, List.getElem?_cons_succ, List.getElem?_cons_zero]; rfl) (by kernel_rfl) (by kernel_rfl) (by kernel_rfl) (fun _ _ _ h => h) (Or.inl ⟨by rfl, ?_⟩) (by assumption) ?_
          rotate_left 1
          · (intro w hSw; (try dsimp only at hSw); go_simp; (try with_reducible rfl))
          try simp only [Act.put, List.setIfInBounds_toArray, List.set_cons_zero, List.set_cons_succ]
          refine wpAnyH_take (i := 3) (v := ?_) (by simp only [List.getElem?_toArray, List.getElem?_cons_succ, List.getElem?_cons_zero]; rfl) (by kernel_rfl) (by kernel_rfl) (by kernel_rfl) (fun _ _ _ h => h) (Or.inl ⟨by rfl, ?_⟩) (by assumption) ?_
          rotate_left 1
          · (intro w hSw; (try dsimp only at hSw); go_simp; (try with_reducible rfl))
          try simp only [Act.put, List.setIfInBounds_toArray, List.set_cons_zero, List.set_cons_succ]
          refine wpAnyH_take (i := 4) (v := ?_) (by simp only [List.getElem?_toArray, List.getElem?_cons_succ, List.getElem?_cons_zero]; rfl) (by kernel_rfl) (by kernel_rfl) (by kernel_rfl) (fun _ _ _ h => h) (Or.inl ⟨by rfl, ?_⟩) (by assumption) ?_
          rotate_left 1
          · (intro w hSw; (try dsimp only at hSw); go_simp; (try with_reducible rfl))
          try simp only [Act.put, List.setIfInBounds_toArray, List.set_cons_zero, List.set_cons_succ]
          refine wpAnyH_take (i := 5) (v := ?_) (by simp only [List.getElem?_toArray, List.getElem?_cons_succ, List.getElem?_cons_zero]; rfl) (by kernel_rfl) (by kernel_rfl) (by kernel_rfl) (fun _ _ _ h => h) (Or.inl ⟨by rfl, ?_⟩) (by assumption) ?_
          rotate_left 1
          · (intro w hSw; (try dsimp only at hSw); go_simp; (try with_reducible rfl))
          try simp only [Act.put, List.setIfInBounds_toArray, List.set_cons_zero, List.set_cons_succ]
          refine wpAnyH_take (i := 6) (v := ?_) (by simp only [List.getElem?_toArray, List.getElem?_cons_succ, List.getElem?_cons_zero]; rfl) (by kernel_rfl) (by kernel_rfl) (by kernel_rfl) (fun _ _ _ h => h) (Or.inl ⟨by rfl, ?_⟩) (by assumption) ?_
          rotate_left 1
          · (intro w hSw; (try dsimp only at hSw); go_simp; (try with_reducible rfl))
          try simp only [Act.put, List.setIfInBounds_toArray, List.set_cons_zero, List.set_cons_succ]
          refine wpAnyH_take (i := 7) (v := ?_) (by simp only [List.getElem?_toArray, List.getElem?_cons_succ, List.getElem?_cons_zero]; rfl) (by kernel_rfl) (by kernel_rfl) (by kernel_rfl) (fun _ _ _ h => h) (Or.inl ⟨by rfl, ?_⟩) (by assumption) ?_
          rotate_left 1
          · (intro w hSw; (try dsimp only at hSw); go_simp; (try with_reducible rfl))
          try simp only [Act.put, List.setIfInBounds_toArray, List.set_cons_zero, List.set_cons_succ]
          refine wpAnyH_take (i := 8) (v := ?_) (by simp only [List.getElem?_toArray, List.getElem?_cons_succ, List.getElem?_cons_zero]; rfl) (by kernel_rfl) (by kernel_rfl) (by kernel_rfl) (fun _ _ _ h => h) (Or.inl ⟨by rfl, ?_⟩) (by assumption) ?_
          rotate_left 1
          · (intro w hSw; (try dsimp only at hSw); go_simp; (try with_reducible rfl))
          try simp only [Act.put, List.setIfInBounds_toArray, List.set_cons_zero, List.set_cons_succ]
          refine wpAnyH_ready (rs := [9]) (by kernel_rfl) (by simp) ?_
          refine AllReadyH.cons (by simp only [List.getElem?_toArray, List.getElem?_cons_succ, List.getElem?_cons_zero]; rfl) (fun K hK => ?_) AllReadyH.nil
          go_simp
          go_at_call 36
          refine (hR2.out).mono ?_
          rintro e w1 ⟨rfl, rfl⟩
          simp only []
          refine hK.out _ _ (⟨u0, u1⟩) (fun hHeld => ?_)
          clear hK K
          try simp only [Act.put, List.setIfInBounds_toArray, List.set_cons_zero, List.set_cons_succ]
          refine wpAnyH_take (i := 10) (v := ?_) (by simp only [List.getElem?_toArray, List.getElem?_cons_succ, List.getElem?_cons_zero]; rfl) (by kernel_rfl) (by kernel_rfl) (by kernel_rfl) (fun _ _ _ h => h) (Or.inl ⟨by rfl, ?_⟩) (by assumption) ?_
          rotate_left 1
          · (intro w hSw; (try dsimp only at hSw); go_simp; (try with_reducible rfl))
          try simp only [Act.put, List.setIfInBounds_toArray, List.set_cons_zero, List.set_cons_succ]
          refine wpAnyH_take (i := 11) (v := ?_) (by simp only [List.getElem?_toArray, List.getElem?_cons_succ, List.getElem?_cons_zero]; rfl) (by kernel_rfl) (by kernel_rfl) (by kernel_rfl) (fun _ _ _ h => h) (Or.inl ⟨by rfl, ?_⟩) (by assumption) ?_
          rotate_left 1
          · (intro w hSw; (try dsimp only at hSw); go_simp; (try with_reducible rfl))
          try simp only [Act.put, List.setIfInBounds_toArray, List.set_cons_zero, List.set_cons_succ]
          refine wpAnyH_take (i := 12) (v := ?_) (by simp only [List.getElem?_toArray, List.getElem?_cons_succ, List.getElem?_cons_zero]; rfl) (by kernel_rfl) (by kernel_rfl) (by kernel_rfl) (fun _ _ _ h => h) (Or.inl ⟨by rfl, ?_⟩) (by assumption) ?_
          rotate_left 1
          · (intro w hSw; (try dsimp only at hSw); go_simp; (try with_reducible rfl))
          try simp only [Act.put, List.setIfInBounds_toArray, List.set_cons_zero, List.set_cons_succ]
          refine wpAnyH_take (i := 13) (v := ?_) (by simp only [List.getElem?_toArray, List.getElem?_cons_succ, List.getElem?_cons_zero]; rfl) (by kernel_rfl) (by kernel_rfl) (by kernel_rfl) (fun _ _ _ h => h) (Or.inl ⟨by rfl, ?_⟩) (by assumption) ?_
          rotate_left 1
          · (intro w hSw; (try dsimp only at hSw); go_simp; (try with_reducible rfl))
          try simp only [Act.put, List.setIfInBounds_toArray, List.set_cons_zero, List.set_cons_succ]
          refine wpAnyH_take (i := 14) (v := ?_) (by simp only [List.getElem?_toArray, List.getElem?_cons_succ, List.getElem?_cons_zero]; rfl) (by kernel_rfl) (by kernel_rfl) (by kernel_rfl) (fun _ _ _ h => h) (Or.inl ⟨by rfl, ?_⟩) (by assumption) ?_
          rotate_left 1
          · (intro w hSw; (try dsimp only at hSw); go_simp; (try with_reducible rfl))
          try simp only [Act.put, List.setIfInBounds_toArray, List.set_cons_zero, List.set_cons_succ]
          refine wpAnyH_take (i := 15) (v := ?_) (by simp only [List.getElem?_toArray, List.getElem?_cons_succ, List.getElem?_cons_zero]; rfl) (by kernel_rfl) (by kernel_rfl) (by kernel_rfl) (fun _ _ _ h => h) (Or.inl ⟨by rfl, ?_⟩) (by assumption) ?_
          rotate_left 1
          · (intro w hSw; (try dsimp only at hSw); go_simp; (try with_reducible rfl))
          try simp only [Act.put, List.setIfInBounds_toArray, List.set_cons_zero, List.set_cons_succ]
          refine wpAnyH_done (by kernel_rfl) ?_ _
          intro K hK
          go_simp
          refine hK _ _ (NoPanic.normal ?_)
          clear hK K
          generalize hw3 : World.drew wr = w3
          have k3 : Keep wr w3 Nul := by subst hw3; exact (Keep.refl wr Nul).drew
          have hChk := hide (chk_walk (off := x) (m := lebN r) w3 (HU2.out.keep k3 (fun e => e)) (by omega) (by omega))
          have K3 := hide k3
          have q1 : IntKind.i64.wrap ((lebN r : Nat) : Int) = ((lebN r : Nat) : Int) := by rw [IntKind.wrap_i64]; omega
          have q2 : IntKind.i64.wrap (r : Int) = (r : Int) := by rw [IntKind.wrap_i64]; omega
          clear hw3 k3 hHeld u0 u1 v2 d2 hgb fr hR2
          refine (show ∀ a w, _ → _ by assumption) _ _ ?_
          go_wp2_with fail
          refine Calls.mono (show Calls _ _ #[.pointer (some ⟨gu, 0, none⟩), .int .i64 ((lebN r : Nat) : Int)] _ _ from hChk.out) ?_
          rintro e w4 ⟨rfl, k4⟩
          have k34 := K3.out.trans0 k4
          have HU4 := hide (HU2.out.keep k34 (fun e => e))
          have HV4 := hide (HV2.out.keep k34 (fun e => e))
          have HL4 := hide (HL2.out.keep0 k34)
          have HK4 := hide (HK2.out.trans0 k34)
          have hgb4 := HL4.out.blk l _ HGS.out
          have v2 := HV4.out.cell 2 (v := .slice (some ⟨gb, 0, none⟩) P.L c2) rfl
          have d2 : w4.cell? ⟨gb, l * 6 + 2, none⟩ = some (.slice (some ⟨g', 0, none⟩) P.rs.length P.rs.length) := by
            obtain ⟨gb3, c3, g3, hve3, _, _, _, hgs3, _, hcell3⟩ := HL4.out.at_ (l0_len P) hlt
            injection hve3 with a1 _ _
            injection a1 with a1
            injection a1 with a1
            subst a1
            rw [HGS.out] at hgs3
            injection hgs3 with hgs3
            subst hgs3
            exact hcell3 2 _ rfl
          have hcj : ∃ v, w4.cell? ⟨g', j, none⟩ = some v := ⟨_, hgb4.cell j (v := .int .i64 (((valF P.rs l j l)[j]'(by omega) : Nat) : Int)) (by rw [List.getElem?_toArray]; exact I64_at (List.getElem?_eq_getElem _))⟩
          obtain ⟨vj, hvj⟩ := hcj
          have fr := hgb4.free j
          have hgl4 := hgb4.lt
          have u1 := HU4.out.cell 1 uct_1
          have fu := HU4.out.free 1
          have hgu4 := HU4.out.lt
          have hgv4 := HV4.out.lt
          have hgbl4 : gb < w4.heap.size := Nat.lt_of_lt_of_le hgbl' k34.size
          have ngu : ¬ g' = gu := fun e => by omega
          clear hgb4 k4 k34 hChk
          go_wp2_with fail
          go_roundw
          case rel =>
            have hx2 : ((1 + P.tl + l * sumN P.rs + sumN (P.rs.take (j + 1)) : Nat) : Int) = (x : Int) + ((lebN r : Nat) : Int) := by rw [HSN.out]; have := HX.out; omega
            refine ⟨j + 1, by omega, by go_num, ?_, ?_, ?_⟩
            · rw [hx2, ← uct_s1 (off := (x : Int))]
              exact (HU4.out.far (p := ⟨g', j, none⟩) (fun e => ngu e.symm) _).set_ 1 _
            · rw [← valF_set P.rs l j HRJ.out]
              exact (HL4.out.setv HGS.out j r).keep (Keep.set1 _ gu 1 _) (fun q _ e => by have : q = gu := e; omega)
            · exact (HK4.out.setg j (fun _ => .inr hBgg') _).setg 1 (fun _ => .inl rfl) _
          case measure => simp [intOf]; omega
        · obtain rfl : j = P.rs.length := by omega
          have hnx : 1 + P.tl + (l + 1) * sumN P.rs = 1 + P.tl + l * sumN P.rs + sumN (P.rs.take P.rs.length) := by rw [List.take_length, Nat.succ_mul]; omega
          have HNX := hide hnx
          clear hbu hlq hk hnx
          go_wp2_with fail
          go_roundw
          case rel => exact ⟨l + 1, by omega, by go_num, by rw [HNX.out]; exact HU2.out, by rw [← valF_next]; exact HL2.out, HK2.out⟩
          case measure => simp [intOf]; omega
    · obtain rfl : l = P.L := by omega
      clear hlq
      go_wp2_with fail
      exact HQ.out wr _ _ _ _ _ _ _ _ _ _ _ _ _ _ _ _ _ _ _ _ _ _ _ _ _ _ _ _ _ _ _ _ _ _ _ _ _ _ _ _ _ _ _ _ _ _ _ _ _ _ _ _ _ _ _ _ _ _ _ _ _ _ _ _ _ _ _ _ _ _ _ _ _ _ _ _ _ _ _ _ _ _ _ _ _ _ _ _ _ _ _ _ _ _ _ _ _ _ _ _ _ _ _ _ _ _ _ _ _ _ _ _ _ _ _ _ _ _ _ _ _ _ _ _ _ _ _ _ _ _ _ _ _ _ _ _ _ _ _ _ _ _ _ _ _ _ _ _ _ _ _ _ _ _ _ _ _ (HV.out.keep HK1.out (fun e => by rcases e with e | e <;> omega)) HU1.out HL1.out HK1.out
end Go.Proofs.YtdlnmkpojiofoaaDoor
