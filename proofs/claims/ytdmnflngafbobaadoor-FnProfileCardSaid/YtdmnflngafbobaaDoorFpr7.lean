/-
  The law FnProfile: the drawn region that runs the step. Conditions: those that stand in each theorem.
-/
import Derived.Test.YtdmnflngafbobaaDoorGSt
import Derived.Test.YtdmnflngafbobaaDoorGPh
import Derived.Test.YtdmnflngafbobaaDoorGiven
import Derived.Test.YtdmnflngafbobaaDoorLast2
namespace Go.Proofs.YtdmnflngafbobaaDoor
open Go.RowKit
set_option linter.unusedVariables false
set_option linter.unusedSimpArgs false
set_option maxRecDepth 100000

/-- impl.Run of one step that sets an extension with a profile. -/
theorem run_one {p q : Nat → Prop} {hd : Hd} {v u : Value} {s : St} (w : World) (hw : s.what = 1) (hh : HV w q v hd) (hsr : SR w p u [s]) (hx : hd.exts.length ≤ 900000) (hs1 : hd.srcs.length ≤ 2147483647) (hdn : ∀ x ∈ hd.exts, x.data.length ≤ 2147483647) (hsd : s.data.length ≤ 2147483647) (he : HErrs w) :
    Calls Tryd.prog 42 #[v, u] w fun e w' => Keep w w' Nul ∧ ∃ A1 n1 c1 A2 n2 c2 A c, e = .returned (.tuple #[.agg (hcells ((setP hd s.id s.data s.prof).getD hd) (.slice A1 n1 c1) (.slice A2 n2 c2)), .slice A 1 c]) ∧
      HV w' (w.heap.size ≤ ·) (.agg (hcells ((setP hd s.id s.data s.prof).getD hd) (.slice A1 n1 c1) (.slice A2 n2 c2))) ((setP hd s.id s.data s.prof).getD hd) ∧ Rd w' (w.heap.size ≤ ·) 1 (.slice A 1 c) 1 [.bool (setP hd s.id s.data s.prof).isSome] := by
  have he1 : stepE hd s = setP hd s.id s.data s.prof := by unfold stepE; rw [hw]; rfl
  have := run_walk w hh hsr (fun t ht => by simp at ht; rw [ht]; exact stepOK1 hw) (by simp; omega) hs1 hdn (fun t ht => by simp at ht; rw [ht]; exact hsd) he
  have e1 : runE hd [s] = ((setP hd s.id s.data s.prof).getD hd, [(setP hd s.id s.data s.prof).isSome]) := by simp only [runE, he1]
  rw [e1] at this
  exact this

set_option maxHeartbeats 25600000 in
theorem fpr_p7 {p q : Nat → Prop} {hd : Hd} {s : St} {gh gs n c n1 c1 n2 c2 : Nat} {A A1 A2 : Option Addr} {Q : Exit → Act → World → Prop} (w : World) (u0 u1 u4 u5 u6 u7 u8 u9 u10 u11 u12 u13 u14 u15 u16 u17 u18 u19 u20 u21 u22 u23 u24 u25 u26 u27 u28 u29 u30 u31 u32 u33 u34 u35 u36 u37 u38 u39 u40 u41 u42 u43 u44 u45 u46 u47 u48 u49 u50 u51 u52 u53 u54 u55 u56 u57 u58 u59 u60 u61 u62 u63 u64 u65 u66 u67 u68 u69 u70 u71 u72 u73 u74 u75 u76 u77 u78 u79 u80 u81 u82 u83 u84 u85 u86 u87 u88 u89 u90 u91 u92 u93 u94 u95 u96 u97 u98 u99 u100 u101 u102 u103 u104 u105 u106 u107 u108 u109 u110 u111 u112 u113 u114 u115 u116 u117 u118 u119 u120 u121 u122 u123 u124 u125 u126 u127 u128 u129 u130 u131 u132 u133 u134 u135 u136 u137 u138 u139 u140 u141 u142 u143 u144 u145 u146 u147 u148 u149 u150 u151 u152 u153 u154 u155 u156 u157 u158 u159 u160 u161 u162 u163 u164 u165 u166 u167 u168 u169 u170 u171 : Value) (hw1 : s.what = 1)
    (hQ : ∀ (w' : World) (v75 v76 v77 v78 v79 v80 v81 v82 : Value) (gr m1 d1 m2 d2 d : Nat) (X1 X2 X : Option Addr), Keep w w' Nul → Blk w' gr 35 (hcells ((setP hd s.id s.data s.prof).getD hd) (.slice X1 m1 d1) (.slice X2 m2 d2)) → HV w' (fun _ => True) (.agg (hcells ((setP hd s.id s.data s.prof).getD hd) (.slice X1 m1 d1) (.slice X2 m2 d2))) ((setP hd s.id s.data s.prof).getD hd) → Rd w' (fun _ => True) 1 (.slice X 1 d) 1 [.bool (setP hd s.id s.data s.prof).isSome] →
      (yOf (fromR Tryd.f13 7)).wp Tryd.prog Q ⟨List.toArray (u0 :: u1 :: .pointer (some ⟨gh, 0, none⟩) :: .pointer (some ⟨gs, 0, none⟩) :: u4 :: u5 :: u6 :: .pointer (some ⟨gr, 0, none⟩) :: .slice X 1 d :: u9 :: u10 :: u11 :: u12 :: u13 :: u14 :: u15 :: u16 :: u17 :: u18 :: u19 :: u20 :: u21 :: u22 :: u23 :: u24 :: u25 :: u26 :: u27 :: u28 :: u29 :: u30 :: u31 :: u32 :: u33 :: u34 :: u35 :: u36 :: u37 :: u38 :: u39 :: u40 :: u41 :: u42 :: u43 :: u44 :: u45 :: u46 :: u47 :: u48 :: u49 :: u50 :: u51 :: u52 :: u53 :: u54 :: u55 :: u56 :: u57 :: u58 :: u59 :: u60 :: u61 :: u62 :: u63 :: u64 :: u65 :: u66 :: u67 :: u68 :: u69 :: u70 :: u71 :: u72 :: u73 :: u74 :: v75 :: v76 :: v77 :: v78 :: v79 :: v80 :: v81 :: v82 :: u83 :: u84 :: u85 :: u86 :: u87 :: u88 :: u89 :: u90 :: u91 :: u92 :: u93 :: u94 :: u95 :: u96 :: u97 :: u98 :: u99 :: u100 :: u101 :: u102 :: u103 :: u104 :: u105 :: u106 :: u107 :: u108 :: u109 :: u110 :: u111 :: u112 :: u113 :: u114 :: u115 :: u116 :: u117 :: u118 :: u119 :: u120 :: u121 :: u122 :: u123 :: u124 :: u125 :: u126 :: u127 :: u128 :: u129 :: u130 :: u131 :: u132 :: u133 :: u134 :: u135 :: u136 :: u137 :: u138 :: u139 :: u140 :: u141 :: u142 :: u143 :: u144 :: u145 :: u146 :: u147 :: u148 :: u149 :: u150 :: u151 :: u152 :: u153 :: u154 :: u155 :: u156 :: u157 :: u158 :: u159 :: u160 :: u161 :: u162 :: u163 :: u164 :: u165 :: u166 :: u167 :: u168 :: u169 :: u170 :: u171 :: []), []⟩ w')
    (hH : Blk w gh 27 (hcells hd (.slice A1 n1 c1) (.slice A2 n2 c2))) (hV : HV w q (.agg (hcells hd (.slice A1 n1 c1) (.slice A2 n2 c2))) hd) (hS : Blk w gs 73 (scells s.what s.id A n c s.prof)) (hR : Rd w p 1 (.slice A n c) n (B8 s.data)) (hnl : n = s.data.length)
    (hx : hd.exts.length ≤ 900000) (hs1 : hd.srcs.length ≤ 2147483647) (hdn : ∀ x ∈ hd.exts, x.data.length ≤ 2147483647) (hsd : s.data.length ≤ 2147483647) (he : HErrs w) :
    Part Tryd.prog Tryd.f13 7 Q ⟨List.toArray (u0 :: u1 :: .pointer (some ⟨gh, 0, none⟩) :: .pointer (some ⟨gs, 0, none⟩) :: u4 :: u5 :: u6 :: u7 :: u8 :: u9 :: u10 :: u11 :: u12 :: u13 :: u14 :: u15 :: u16 :: u17 :: u18 :: u19 :: u20 :: u21 :: u22 :: u23 :: u24 :: u25 :: u26 :: u27 :: u28 :: u29 :: u30 :: u31 :: u32 :: u33 :: u34 :: u35 :: u36 :: u37 :: u38 :: u39 :: u40 :: u41 :: u42 :: u43 :: u44 :: u45 :: u46 :: u47 :: u48 :: u49 :: u50 :: u51 :: u52 :: u53 :: u54 :: u55 :: u56 :: u57 :: u58 :: u59 :: u60 :: u61 :: u62 :: u63 :: u64 :: u65 :: u66 :: u67 :: u68 :: u69 :: u70 :: u71 :: u72 :: u73 :: u74 :: u75 :: u76 :: u77 :: u78 :: u79 :: u80 :: u81 :: u82 :: u83 :: u84 :: u85 :: u86 :: u87 :: u88 :: u89 :: u90 :: u91 :: u92 :: u93 :: u94 :: u95 :: u96 :: u97 :: u98 :: u99 :: u100 :: u101 :: u102 :: u103 :: u104 :: u105 :: u106 :: u107 :: u108 :: u109 :: u110 :: u111 :: u112 :: u113 :: u114 :: u115 :: u116 :: u117 :: u118 :: u119 :: u120 :: u121 :: u122 :: u123 :: u124 :: u125 :: u126 :: u127 :: u128 :: u129 :: u130 :: u131 :: u132 :: u133 :: u134 :: u135 :: u136 :: u137 :: u138 :: u139 :: u140 :: u141 :: u142 :: u143 :: u144 :: u145 :: u146 :: u147 :: u148 :: u149 :: u150 :: u151 :: u152 :: u153 :: u154 :: u155 :: u156 :: u157 :: u158 :: u159 :: u160 :: u161 :: u162 :: u163 :: u164 :: u165 :: u166 :: u167 :: u168 :: u169 :: u170 :: u171 :: []), []⟩ w := by
  have HQ := hide hQ
  have HW := hide hw1
  clear hw1
  have SOf : ∀ w', Blk w' gh 27 (hcells hd (.slice A1 n1 c1) (.slice A2 n2 c2)) → Blk w' gs 73 (scells s.what s.id A n c s.prof) → (w'.cell? ⟨gh, 0, none⟩ = some (.int .u8 hd.v) ∧ w'.cell? ⟨gh, 1, none⟩ = some (.bool hd.pad) ∧ w'.cell? ⟨gh, 2, none⟩ = some (.bool hd.ext) ∧ w'.cell? ⟨gh, 3, none⟩ = some (.bool hd.mark) ∧ w'.cell? ⟨gh, 4, none⟩ = some (.int .u8 hd.ty) ∧ w'.cell? ⟨gh, 5, none⟩ = some (.int .u16 hd.seq) ∧ w'.cell? ⟨gh, 6, none⟩ = some (.int .u32 hd.time) ∧ w'.cell? ⟨gh, 7, none⟩ = some (.int .u32 hd.ssrc) ∧ w'.cell? ⟨gh, 8, none⟩ = some (.slice A1 n1 c1) ∧ w'.cell? ⟨gh, 9, none⟩ = some (.int .u16 hd.prof) ∧ w'.cell? ⟨gh, 10, none⟩ = some (.slice A2 n2 c2) ∧ w'.cell? ⟨gh, 11, none⟩ = some (.int .u8 hd.padn) ∧ w'.cell? ⟨gs, 0, none⟩ = some (.int .i64 s.what) ∧ w'.cell? ⟨gs, 1, none⟩ = some (.int .u8 s.id) ∧ w'.cell? ⟨gs, 2, none⟩ = some (.slice A n c) ∧ w'.cell? ⟨gs, 3, none⟩ = some (.int .u16 s.prof)) := fun w' h h' => ⟨h.cell 0 rfl, h.cell 1 rfl, h.cell 2 rfl, h.cell 3 rfl, h.cell 4 rfl, h.cell 5 rfl, h.cell 6 rfl, h.cell 7 rfl, h.cell 8 rfl, h.cell 9 rfl, h.cell 10 rfl, h.cell 11 rfl, h'.cell 0 rfl, h'.cell 1 rfl, h'.cell 2 rfl, h'.cell 3 rfl⟩
  have SO := hide SOf
  have s0 := SOf w.drew hH hS
  obtain ⟨wd, hwd⟩ : ∃ wd, wd = w.drew := ⟨_, rfl⟩
  have K0 := hide (show Keep w wd Nul by rw [hwd]; exact (Keep.refl w Nul).drew)
  have BH0 := hide (hH.keep K0.out (fun e => e))
  have BS0 := hide (hS.keep K0.out (fun e => e))
  have HVi := hide hV
  have HRi := hide (show Rd w p 1 (.slice A s.data.length c) s.data.length (B8 s.data) by rw [← hnl]; exact hR)
  have HE := hide he
  have HNL := hide hnl
  clear hQ SOf hH hV hS hR he hnl
  refine part_open (fun c0 hc K hK => ?_)
  have HK := hide hK
  clear hK
  generalize hfr : yOf c0 = yy at HK
  have hyy : yOf (fromR Tryd.f13 7) = yy := by rw [← hc]; exact hfr
  conv at hc => rhs; whnf
  subst hc
  clear hfr
  dsimp only [xOf, yOf]
  refine wp_region_noPanic ?_
  refine region_last2' (S := fun w' => w'.cell? ⟨gh, 0, none⟩ = some (.int .u8 hd.v) ∧ w'.cell? ⟨gh, 1, none⟩ = some (.bool hd.pad) ∧ w'.cell? ⟨gh, 2, none⟩ = some (.bool hd.ext) ∧ w'.cell? ⟨gh, 3, none⟩ = some (.bool hd.mark) ∧ w'.cell? ⟨gh, 4, none⟩ = some (.int .u8 hd.ty) ∧ w'.cell? ⟨gh, 5, none⟩ = some (.int .u16 hd.seq) ∧ w'.cell? ⟨gh, 6, none⟩ = some (.int .u32 hd.time) ∧ w'.cell? ⟨gh, 7, none⟩ = some (.int .u32 hd.ssrc) ∧ w'.cell? ⟨gh, 8, none⟩ = some (.slice A1 n1 c1) ∧ w'.cell? ⟨gh, 9, none⟩ = some (.int .u16 hd.prof) ∧ w'.cell? ⟨gh, 10, none⟩ = some (.slice A2 n2 c2) ∧ w'.cell? ⟨gh, 11, none⟩ = some (.int .u8 hd.padn) ∧ w'.cell? ⟨gs, 0, none⟩ = some (.int .i64 s.what) ∧ w'.cell? ⟨gs, 1, none⟩ = some (.int .u8 s.id) ∧ w'.cell? ⟨gs, 2, none⟩ = some (.slice A n c) ∧ w'.cell? ⟨gs, 3, none⟩ = some (.int .u16 s.prof)) (by kernel_rfl) (by kernel_rfl) (by simp only [List.dropLast_cons_cons, List.dropLast_singleton]; rfl) (by simp only [List.getLast?_cons_cons, List.getLast?_singleton]; rfl) (s0) (fun hHeld => ?_)
  simp only [List.length_cons, List.length_nil, Nat.reduceAdd, Nat.zero_add]
  refine wpAnyH_take (i := 0) (v := ?_) (by simp only [List.getElem?_toArray, List.getElem?_cons_succ, List.getElem?_cons_zero]; rfl) (by kernel_rfl) (by kernel_rfl) (by kernel_rfl) (fun _ _ _ h => h) (Or.inl ⟨by rfl, ?_⟩) (by assumption) ?_
  rotate_left 1
  · (intro w hSw; (try dsimp only at hSw); go_simp; (try with_reducible rfl))
  try simp only [Act.put, List.setIfInBounds_toArray, List.set_cons_zero, List.set_cons_succ]
  refine wpAnyH_take (i := 2) (v := ?_) (by simp only [List.getElem?_toArray, List.getElem?_cons_succ, List.getElem?_cons_zero]; rfl) (by kernel_rfl) (by kernel_rfl) (by kernel_rfl) (fun _ _ _ h => h) (Or.inl ⟨by rfl, ?_⟩) (by assumption) ?_
  rotate_left 1
  · (intro w hSw; (try dsimp only at hSw); go_simp; (try with_reducible rfl))
  try simp only [Act.put, List.setIfInBounds_toArray, List.set_cons_zero, List.set_cons_succ]
  rw [← hwd]
  clear hwd s0
  refine wpAnyH_ready (rs := [1, 3, 8]) (by kernel_rfl) (by simp) ?_
  refine (AllReadyH.cons (by simp only [List.getElem?_toArray, List.getElem?_cons_succ, List.getElem?_cons_zero]; rfl) (fun K hK => ?_) (AllReadyH.cons (by simp only [List.getElem?_toArray, List.getElem?_cons_succ, List.getElem?_cons_zero]; rfl) (fun K hK => ?_) (AllReadyH.cons (by simp only [List.getElem?_toArray, List.getElem?_cons_succ, List.getElem?_cons_zero]; rfl) (fun K hK => ?_) AllReadyH.nil)))
  · go_simp
    go_at_call 20
    refine Calls.mono (show Calls _ _ #[.agg (hcells hd (.slice A1 n1 c1) (.slice A2 n2 c2))] _ _ from given_walk _ (HVi.out.keep0 K0.out) (by omega)) ?_
    rintro e wg1 ⟨kk1, svg, xvg, rfl, hvg⟩
    have BH1 := hide (BH0.out.keep kk1 (fun e => e))
    have BS1 := hide (BS0.out.keep kk1 (fun e => e))
    have K1 := hide (K0.out.trans0 kk1)
    have GV1 := hide hvg
    clear hvg kk1
    simp only []
    refine hK.out _ _ (SO.out _ BH1.out BS1.out) (fun hHeld => ?_)
    clear hK K
    try simp only [Act.put, List.setIfInBounds_toArray, List.set_cons_zero, List.set_cons_succ]
    refine wpAnyH_ready (rs := [3, 8]) (by kernel_rfl) (by simp) ?_
    refine (AllReadyH.cons (by simp only [List.getElem?_toArray, List.getElem?_cons_succ, List.getElem?_cons_zero]; rfl) (fun K hK => ?_) (AllReadyH.cons (by simp only [List.getElem?_toArray, List.getElem?_cons_succ, List.getElem?_cons_zero]; rfl) (fun K hK => ?_) AllReadyH.nil))
    · go_simp
      have BH2 := hide (BH1.out.keep ((Keep.refl wg1 Nul).alloc (.cells #[.int .i64 s.what, .int .u8 s.id, .slice A n c, .int .u16 s.prof] 76)) (fun e => e))
      have BS2 := hide (BS1.out.keep ((Keep.refl wg1 Nul).alloc (.cells #[.int .i64 s.what, .int .u8 s.id, .slice A n c, .int .u16 s.prof] 76)) (fun e => e))
      have K2 := hide (K1.out.trans0 ((Keep.refl wg1 Nul).alloc (.cells #[.int .i64 s.what, .int .u8 s.id, .slice A n c, .int .u16 s.prof] 76)))
      have GV2 := hide (GV1.out.keep0 ((Keep.refl wg1 Nul).alloc (.cells #[.int .i64 s.what, .int .u8 s.id, .slice A n c, .int .u16 s.prof] 76)))
      have SR2 := hide (show SR (World.alloc wg1 (.cells #[.int .i64 s.what, .int .u8 s.id, .slice A n c, .int .u16 s.prof] 76)) (fun _ => True) (.slice (some ⟨wg1.heap.size, 0, none⟩) 1 1) [s] from ⟨[.slice A n c], rfl, fun k t d h1 h2 => by
        have hk : k = 0 := by
          have := (List.getElem?_eq_some_iff.1 h1).1
          simp at this
          exact this
        subst hk
        simp at h1 h2
        subst h1 h2
        have h0 := (HRi.out.keep0 K2.out).mono (q := fun _ => True) (fun _ _ _ => trivial)
        rw [← HNL.out] at h0 ⊢
        exact h0, by
        have ho := (Own.of_lit (e := 76) (sz := 4) wg1 #[.int .i64 s.what, .int .u8 s.id, .slice A n c, .int .u16 s.prof] 1 (by simp [maxLen]) rfl).rd.mono (q := fun _ => True) (fun _ _ _ => trivial)
        simp only [World.size_alloc] at ho
        exact ho⟩)
      refine hK.out _ _ (SO.out _ BH2.out BS2.out) (fun hHeld => ?_)
      clear hK K
      try simp only [Act.put, List.setIfInBounds_toArray, List.set_cons_zero, List.set_cons_succ]
      refine wpAnyH_ready (rs := [4, 8]) (by kernel_rfl) (by simp) ?_
      refine (AllReadyH.cons (by simp only [List.getElem?_toArray, List.getElem?_cons_succ, List.getElem?_cons_zero]; rfl) (fun K hK => ?_) (AllReadyH.cons (by simp only [List.getElem?_toArray, List.getElem?_cons_succ, List.getElem?_cons_zero]; rfl) (fun K hK => ?_) AllReadyH.nil))
      · go_simp
        go_at_call 42
        refine (run_one _ HW.out GV2.out SR2.out hx hs1 hdn hsd (HE.out.keep0 K2.out)).mono ?_
        rintro e wr3 ⟨kk3, X1, m1, d1, X2, m2, d2, X, d, rfl, hrv, hrb⟩
        have BH3 := hide (BH2.out.keep kk3 (fun e => e))
        have BS3 := hide (BS2.out.keep kk3 (fun e => e))
        have K3 := hide (K2.out.trans0 kk3)
        have GV3 := hide (GV2.out.keep0 kk3)
        have SR3 := hide (SR2.out.keep kk3 (fun _ _ _ e => e))
        have RV3 := hide (hrv.mono (q := fun i => (World.alloc wg1 (.cells #[.int .i64 s.what, .int .u8 s.id, .slice A n c, .int .u16 s.prof] 76)).heap.size ≤ i ∧ i < wr3.heap.size) (fun i hi hp => ⟨hp, hi⟩))
        have RB3 := hide (hrb.mono (q := fun i => (World.alloc wg1 (.cells #[.int .i64 s.what, .int .u8 s.id, .slice A n c, .int .u16 s.prof] 76)).heap.size ≤ i ∧ i < wr3.heap.size) (fun i hi hp => ⟨hp, hi⟩))
        clear hrv hrb kk3
        simp only []
        refine hK.out _ _ (SO.out _ BH3.out BS3.out) (fun hHeld => ?_)
        clear hK K
        try simp only [Act.put, List.setIfInBounds_toArray, List.set_cons_zero, List.set_cons_succ]
        unfold hcells
        refine wpAnyH_take (i := 5) (v := ?_) (by simp only [List.getElem?_toArray, List.getElem?_cons_succ, List.getElem?_cons_zero]; rfl) (by kernel_rfl) (by kernel_rfl) (by kernel_rfl) (fun _ _ _ h => h) (Or.inl ⟨by rfl, ?_⟩) (by assumption) ?_
        rotate_left 1
        · (intro w hSw; (try dsimp only at hSw); go_simp; (try with_reducible rfl))
        try simp only [Act.put, List.setIfInBounds_toArray, List.set_cons_zero, List.set_cons_succ]
        refine wpAnyH_take (i := 6) (v := ?_) (by simp only [List.getElem?_toArray, List.getElem?_cons_succ, List.getElem?_cons_zero]; rfl) (by kernel_rfl) (by kernel_rfl) (by kernel_rfl) (fun _ _ _ h => h) (Or.inl ⟨by rfl, ?_⟩) (by assumption) ?_
        rotate_left 1
        · (intro w hSw; (try dsimp only at hSw); go_simp; (try with_reducible rfl))
        try simp only [Act.put, List.setIfInBounds_toArray, List.set_cons_zero, List.set_cons_succ]
        refine wpAnyH_take (i := 7) (v := ?_) (by simp only [List.getElem?_toArray, List.getElem?_cons_succ, List.getElem?_cons_zero]; rfl) (by kernel_rfl) (by kernel_rfl) (by kernel_rfl) (fun _ _ _ h => h) (Or.inl ⟨by rfl, ?_⟩) (by assumption) ?_
        rotate_left 1
        · (intro w hSw; (try dsimp only at hSw); go_simp; (try with_reducible rfl))
        try simp only [Act.put, List.setIfInBounds_toArray, List.set_cons_zero, List.set_cons_succ]
        refine wpAnyH_ready (rs := [8]) (by kernel_rfl) (by simp) ?_
        refine (AllReadyH.cons (by simp only [List.getElem?_toArray, List.getElem?_cons_succ, List.getElem?_cons_zero]; rfl) (fun K hK => ?_) AllReadyH.nil)
        · go_simp
          have BH4 := hide (BH3.out.keep ((Keep.refl wr3 Nul).alloc (.cells (hcells hd0 (.slice none 0 0) (.slice none 0 0)) 35)) (fun e => e))
          have BS4 := hide (BS3.out.keep ((Keep.refl wr3 Nul).alloc (.cells (hcells hd0 (.slice none 0 0) (.slice none 0 0)) 35)) (fun e => e))
          have K4 := hide (K3.out.trans0 ((Keep.refl wr3 Nul).alloc (.cells (hcells hd0 (.slice none 0 0) (.slice none 0 0)) 35)))
          have GV4 := hide (GV3.out.keep0 ((Keep.refl wr3 Nul).alloc (.cells (hcells hd0 (.slice none 0 0) (.slice none 0 0)) 35)))
          have SR4 := hide (SR3.out.keep ((Keep.refl wr3 Nul).alloc (.cells (hcells hd0 (.slice none 0 0) (.slice none 0 0)) 35)) (fun _ _ _ e => e))
          have RV4 := hide (RV3.out.keep0 ((Keep.refl wr3 Nul).alloc (.cells (hcells hd0 (.slice none 0 0) (.slice none 0 0)) 35)))
          have RB4 := hide (RB3.out.keep0 ((Keep.refl wr3 Nul).alloc (.cells (hcells hd0 (.slice none 0 0) (.slice none 0 0)) 35)))
          have BZ4 := hide (show Blk (World.alloc wr3 (.cells (hcells hd0 (.slice none 0 0) (.slice none 0 0)) 35)) (wr3.heap.size) 35 (hcells hd0 (.slice none 0 0) (.slice none 0 0)) from Blk.new' (by first | rfl | simp only [World.size_alloc]))
          refine hK.out _ _ (SO.out _ BH4.out BS4.out) (fun hHeld => ?_)
          clear hK K
          try simp only [Act.put, List.setIfInBounds_toArray, List.set_cons_zero, List.set_cons_succ]
          refine wpAnyH_ready (rs := [9]) (by kernel_rfl) (by simp) ?_
          refine AllReadyH.cons (by simp only [List.getElem?_toArray, List.getElem?_cons_succ, List.getElem?_cons_zero]; rfl) (fun K hK => ?_) AllReadyH.nil
          refine step_stRow rfl rfl rfl rfl BZ4.out (by kernel_rfl) rfl (by simp [Value.oneCell']) ?_
          intro wf hbf hkf
          have hbh := BH4.out.keep hkf (fun e => (BH4.out.ne_ BZ4.out (by decide)) e)
          have hbs := BS4.out.keep hkf (fun e => (BS4.out.ne_ BZ4.out (by decide)) e)
          have HRVf := hide ((RV4.out.keep hkf (fun i _ hp e => by have h1 := hp.1; have h2 := hp.2; have h3 : i = wr3.heap.size := e; omega)).mono (q := fun _ => True) (fun _ _ _ => trivial))
          have HRBf := hide ((RB4.out.keep hkf (fun i _ hp e => by have h1 := hp.1; have h2 := hp.2; have h3 : i = wr3.heap.size := e; omega)).mono (q := fun _ => True) (fun _ _ _ => trivial))
          have HBf := hide hbf
          have HKf := hide (K4.out.trans hkf (fun i hi e => by have h3 : i = wr3.heap.size := e; have := K3.out.size; simp only [World.size_alloc] at *; omega))
          refine hK.out _ _ (SO.out _ hbh hbs) (fun hHeld => ?_)
          clear hK K hkf hbf
          try simp only [Act.put, List.setIfInBounds_toArray, List.set_cons_zero, List.set_cons_succ]
          refine wpAnyH_done (by kernel_rfl) ?_ _
          intro K hK
          go_simp
          refine hK _ _ (NoPanic.normal ?_)
          clear hK K
          refine HK.out _ _ ?_
          rw [← hyy]
          exact HQ.out _ _ _ _ _ _ _ _ _  _ _ _ _ _ _ _ _ _ HKf.out HBf.out HRVf.out HRBf.out
      · go_simp
        have BH5 := hide (BH2.out.keep ((Keep.refl (World.alloc wg1 (.cells #[.int .i64 s.what, .int .u8 s.id, .slice A n c, .int .u16 s.prof] 76)) Nul).alloc (.cells (hcells hd0 (.slice none 0 0) (.slice none 0 0)) 35)) (fun e => e))
        have BS5 := hide (BS2.out.keep ((Keep.refl (World.alloc wg1 (.cells #[.int .i64 s.what, .int .u8 s.id, .slice A n c, .int .u16 s.prof] 76)) Nul).alloc (.cells (hcells hd0 (.slice none 0 0) (.slice none 0 0)) 35)) (fun e => e))
        have K5 := hide (K2.out.trans0 ((Keep.refl (World.alloc wg1 (.cells #[.int .i64 s.what, .int .u8 s.id, .slice A n c, .int .u16 s.prof] 76)) Nul).alloc (.cells (hcells hd0 (.slice none 0 0) (.slice none 0 0)) 35)))
        have GV5 := hide (GV2.out.keep0 ((Keep.refl (World.alloc wg1 (.cells #[.int .i64 s.what, .int .u8 s.id, .slice A n c, .int .u16 s.prof] 76)) Nul).alloc (.cells (hcells hd0 (.slice none 0 0) (.slice none 0 0)) 35)))
        have SR5 := hide (SR2.out.keep ((Keep.refl (World.alloc wg1 (.cells #[.int .i64 s.what, .int .u8 s.id, .slice A n c, .int .u16 s.prof] 76)) Nul).alloc (.cells (hcells hd0 (.slice none 0 0) (.slice none 0 0)) 35)) (fun _ _ _ e => e))
        have BZ5 := hide (show Blk (World.alloc (World.alloc wg1 (.cells #[.int .i64 s.what, .int .u8 s.id, .slice A n c, .int .u16 s.prof] 76)) (.cells (hcells hd0 (.slice none 0 0) (.slice none 0 0)) 35)) (wg1.heap.size + 1) 35 (hcells hd0 (.slice none 0 0) (.slice none 0 0)) from Blk.new' (by first | rfl | simp only [World.size_alloc]))
        refine hK.out _ _ (SO.out _ BH5.out BS5.out) (fun hHeld => ?_)
        clear hK K
        try simp only [Act.put, List.setIfInBounds_toArray, List.set_cons_zero, List.set_cons_succ]
        refine wpAnyH_ready (rs := [4]) (by kernel_rfl) (by simp) ?_
        refine (AllReadyH.cons (by simp only [List.getElem?_toArray, List.getElem?_cons_succ, List.getElem?_cons_zero]; rfl) (fun K hK => ?_) AllReadyH.nil)
        · go_simp
          go_at_call 42
          refine (run_one _ HW.out GV5.out SR5.out hx hs1 hdn hsd (HE.out.keep0 K5.out)).mono ?_
          rintro e wr6 ⟨kk6, X1, m1, d1, X2, m2, d2, X, d, rfl, hrv, hrb⟩
          have BH6 := hide (BH5.out.keep kk6 (fun e => e))
          have BS6 := hide (BS5.out.keep kk6 (fun e => e))
          have K6 := hide (K5.out.trans0 kk6)
          have GV6 := hide (GV5.out.keep0 kk6)
          have SR6 := hide (SR5.out.keep kk6 (fun _ _ _ e => e))
          have BZ6 := hide (BZ5.out.keep kk6 (fun e => e))
          have RV6 := hide (hrv.mono (q := fun i => (World.alloc (World.alloc wg1 (.cells #[.int .i64 s.what, .int .u8 s.id, .slice A n c, .int .u16 s.prof] 76)) (.cells (hcells hd0 (.slice none 0 0) (.slice none 0 0)) 35)).heap.size ≤ i ∧ i < wr6.heap.size) (fun i hi hp => ⟨hp, hi⟩))
          have RB6 := hide (hrb.mono (q := fun i => (World.alloc (World.alloc wg1 (.cells #[.int .i64 s.what, .int .u8 s.id, .slice A n c, .int .u16 s.prof] 76)) (.cells (hcells hd0 (.slice none 0 0) (.slice none 0 0)) 35)).heap.size ≤ i ∧ i < wr6.heap.size) (fun i hi hp => ⟨hp, hi⟩))
          clear hrv hrb kk6
          simp only []
          refine hK.out _ _ (SO.out _ BH6.out BS6.out) (fun hHeld => ?_)
          clear hK K
          try simp only [Act.put, List.setIfInBounds_toArray, List.set_cons_zero, List.set_cons_succ]
          unfold hcells
          refine wpAnyH_take (i := 5) (v := ?_) (by simp only [List.getElem?_toArray, List.getElem?_cons_succ, List.getElem?_cons_zero]; rfl) (by kernel_rfl) (by kernel_rfl) (by kernel_rfl) (fun _ _ _ h => h) (Or.inl ⟨by rfl, ?_⟩) (by assumption) ?_
          rotate_left 1
          · (intro w hSw; (try dsimp only at hSw); go_simp; (try with_reducible rfl))
          try simp only [Act.put, List.setIfInBounds_toArray, List.set_cons_zero, List.set_cons_succ]
          refine wpAnyH_take (i := 6) (v := ?_) (by simp only [List.getElem?_toArray, List.getElem?_cons_succ, List.getElem?_cons_zero]; rfl) (by kernel_rfl) (by kernel_rfl) (by kernel_rfl) (fun _ _ _ h => h) (Or.inl ⟨by rfl, ?_⟩) (by assumption) ?_
          rotate_left 1
          · (intro w hSw; (try dsimp only at hSw); go_simp; (try with_reducible rfl))
          try simp only [Act.put, List.setIfInBounds_toArray, List.set_cons_zero, List.set_cons_succ]
          refine wpAnyH_take (i := 7) (v := ?_) (by simp only [List.getElem?_toArray, List.getElem?_cons_succ, List.getElem?_cons_zero]; rfl) (by kernel_rfl) (by kernel_rfl) (by kernel_rfl) (fun _ _ _ h => h) (Or.inl ⟨by rfl, ?_⟩) (by assumption) ?_
          rotate_left 1
          · (intro w hSw; (try dsimp only at hSw); go_simp; (try with_reducible rfl))
          try simp only [Act.put, List.setIfInBounds_toArray, List.set_cons_zero, List.set_cons_succ]
          refine wpAnyH_ready (rs := [9]) (by kernel_rfl) (by simp) ?_
          refine AllReadyH.cons (by simp only [List.getElem?_toArray, List.getElem?_cons_succ, List.getElem?_cons_zero]; rfl) (fun K hK => ?_) AllReadyH.nil
          refine step_stRow rfl rfl rfl rfl BZ6.out (by kernel_rfl) rfl (by simp [Value.oneCell']) ?_
          intro wf hbf hkf
          have hbh := BH6.out.keep hkf (fun e => (BH6.out.ne_ BZ6.out (by decide)) e)
          have hbs := BS6.out.keep hkf (fun e => (BS6.out.ne_ BZ6.out (by decide)) e)
          have HRVf := hide ((RV6.out.keep hkf (fun i _ hp e => by have h1 := hp.1; have h2 := hp.2; have h3 : i = wg1.heap.size + 1 := e; have := BZ5.out.lt; omega)).mono (q := fun _ => True) (fun _ _ _ => trivial))
          have HRBf := hide ((RB6.out.keep hkf (fun i _ hp e => by have h1 := hp.1; have h2 := hp.2; have h3 : i = wg1.heap.size + 1 := e; have := BZ5.out.lt; omega)).mono (q := fun _ => True) (fun _ _ _ => trivial))
          have HBf := hide hbf
          have HKf := hide (K6.out.trans hkf (fun i hi e => by have h3 : i = wg1.heap.size + 1 := e; have := K2.out.size; simp only [World.size_alloc] at *; omega))
          refine hK.out _ _ (SO.out _ hbh hbs) (fun hHeld => ?_)
          clear hK K hkf hbf
          try simp only [Act.put, List.setIfInBounds_toArray, List.set_cons_zero, List.set_cons_succ]
          refine wpAnyH_done (by kernel_rfl) ?_ _
          intro K hK
          go_simp
          refine hK _ _ (NoPanic.normal ?_)
          clear hK K
          refine HK.out _ _ ?_
          rw [← hyy]
          exact HQ.out _ _ _ _ _ _ _ _ _  _ _ _ _ _ _ _ _ _ HKf.out HBf.out HRVf.out HRBf.out
    · go_simp
      have BH7 := hide (BH1.out.keep ((Keep.refl wg1 Nul).alloc (.cells (hcells hd0 (.slice none 0 0) (.slice none 0 0)) 35)) (fun e => e))
      have BS7 := hide (BS1.out.keep ((Keep.refl wg1 Nul).alloc (.cells (hcells hd0 (.slice none 0 0) (.slice none 0 0)) 35)) (fun e => e))
      have K7 := hide (K1.out.trans0 ((Keep.refl wg1 Nul).alloc (.cells (hcells hd0 (.slice none 0 0) (.slice none 0 0)) 35)))
      have GV7 := hide (GV1.out.keep0 ((Keep.refl wg1 Nul).alloc (.cells (hcells hd0 (.slice none 0 0) (.slice none 0 0)) 35)))
      have BZ7 := hide (show Blk (World.alloc wg1 (.cells (hcells hd0 (.slice none 0 0) (.slice none 0 0)) 35)) (wg1.heap.size) 35 (hcells hd0 (.slice none 0 0) (.slice none 0 0)) from Blk.new' (by first | rfl | simp only [World.size_alloc]))
      refine hK.out _ _ (SO.out _ BH7.out BS7.out) (fun hHeld => ?_)
      clear hK K
      try simp only [Act.put, List.setIfInBounds_toArray, List.set_cons_zero, List.set_cons_succ]
      refine wpAnyH_ready (rs := [3]) (by kernel_rfl) (by simp) ?_
      refine (AllReadyH.cons (by simp only [List.getElem?_toArray, List.getElem?_cons_succ, List.getElem?_cons_zero]; rfl) (fun K hK => ?_) AllReadyH.nil)
      · go_simp
        have BH8 := hide (BH7.out.keep ((Keep.refl (World.alloc wg1 (.cells (hcells hd0 (.slice none 0 0) (.slice none 0 0)) 35)) Nul).alloc (.cells #[.int .i64 s.what, .int .u8 s.id, .slice A n c, .int .u16 s.prof] 76)) (fun e => e))
        have BS8 := hide (BS7.out.keep ((Keep.refl (World.alloc wg1 (.cells (hcells hd0 (.slice none 0 0) (.slice none 0 0)) 35)) Nul).alloc (.cells #[.int .i64 s.what, .int .u8 s.id, .slice A n c, .int .u16 s.prof] 76)) (fun e => e))
        have K8 := hide (K7.out.trans0 ((Keep.refl (World.alloc wg1 (.cells (hcells hd0 (.slice none 0 0) (.slice none 0 0)) 35)) Nul).alloc (.cells #[.int .i64 s.what, .int .u8 s.id, .slice A n c, .int .u16 s.prof] 76)))
        have GV8 := hide (GV7.out.keep0 ((Keep.refl (World.alloc wg1 (.cells (hcells hd0 (.slice none 0 0) (.slice none 0 0)) 35)) Nul).alloc (.cells #[.int .i64 s.what, .int .u8 s.id, .slice A n c, .int .u16 s.prof] 76)))
        have BZ8 := hide (BZ7.out.keep ((Keep.refl (World.alloc wg1 (.cells (hcells hd0 (.slice none 0 0) (.slice none 0 0)) 35)) Nul).alloc (.cells #[.int .i64 s.what, .int .u8 s.id, .slice A n c, .int .u16 s.prof] 76)) (fun e => e))
        have SR8 := hide (show SR (World.alloc (World.alloc wg1 (.cells (hcells hd0 (.slice none 0 0) (.slice none 0 0)) 35)) (.cells #[.int .i64 s.what, .int .u8 s.id, .slice A n c, .int .u16 s.prof] 76)) (fun _ => True) (.slice (some ⟨wg1.heap.size + 1, 0, none⟩) 1 1) [s] from ⟨[.slice A n c], rfl, fun k t d h1 h2 => by
          have hk : k = 0 := by
            have := (List.getElem?_eq_some_iff.1 h1).1
            simp at this
            exact this
          subst hk
          simp at h1 h2
          subst h1 h2
          have h0 := (HRi.out.keep0 K8.out).mono (q := fun _ => True) (fun _ _ _ => trivial)
          rw [← HNL.out] at h0 ⊢
          exact h0, by
          have ho := (Own.of_lit (e := 76) (sz := 4) (World.alloc wg1 (.cells (hcells hd0 (.slice none 0 0) (.slice none 0 0)) 35)) #[.int .i64 s.what, .int .u8 s.id, .slice A n c, .int .u16 s.prof] 1 (by simp [maxLen]) rfl).rd.mono (q := fun _ => True) (fun _ _ _ => trivial)
          simp only [World.size_alloc] at ho
          exact ho⟩)
        refine hK.out _ _ (SO.out _ BH8.out BS8.out) (fun hHeld => ?_)
        clear hK K
        try simp only [Act.put, List.setIfInBounds_toArray, List.set_cons_zero, List.set_cons_succ]
        refine wpAnyH_ready (rs := [4]) (by kernel_rfl) (by simp) ?_
        refine (AllReadyH.cons (by simp only [List.getElem?_toArray, List.getElem?_cons_succ, List.getElem?_cons_zero]; rfl) (fun K hK => ?_) AllReadyH.nil)
        · go_simp
          go_at_call 42
          refine (run_one _ HW.out GV8.out SR8.out hx hs1 hdn hsd (HE.out.keep0 K8.out)).mono ?_
          rintro e wr9 ⟨kk9, X1, m1, d1, X2, m2, d2, X, d, rfl, hrv, hrb⟩
          have BH9 := hide (BH8.out.keep kk9 (fun e => e))
          have BS9 := hide (BS8.out.keep kk9 (fun e => e))
          have K9 := hide (K8.out.trans0 kk9)
          have GV9 := hide (GV8.out.keep0 kk9)
          have SR9 := hide (SR8.out.keep kk9 (fun _ _ _ e => e))
          have BZ9 := hide (BZ8.out.keep kk9 (fun e => e))
          have RV9 := hide (hrv.mono (q := fun i => (World.alloc (World.alloc wg1 (.cells (hcells hd0 (.slice none 0 0) (.slice none 0 0)) 35)) (.cells #[.int .i64 s.what, .int .u8 s.id, .slice A n c, .int .u16 s.prof] 76)).heap.size ≤ i ∧ i < wr9.heap.size) (fun i hi hp => ⟨hp, hi⟩))
          have RB9 := hide (hrb.mono (q := fun i => (World.alloc (World.alloc wg1 (.cells (hcells hd0 (.slice none 0 0) (.slice none 0 0)) 35)) (.cells #[.int .i64 s.what, .int .u8 s.id, .slice A n c, .int .u16 s.prof] 76)).heap.size ≤ i ∧ i < wr9.heap.size) (fun i hi hp => ⟨hp, hi⟩))
          clear hrv hrb kk9
          simp only []
          refine hK.out _ _ (SO.out _ BH9.out BS9.out) (fun hHeld => ?_)
          clear hK K
          try simp only [Act.put, List.setIfInBounds_toArray, List.set_cons_zero, List.set_cons_succ]
          unfold hcells
          refine wpAnyH_take (i := 5) (v := ?_) (by simp only [List.getElem?_toArray, List.getElem?_cons_succ, List.getElem?_cons_zero]; rfl) (by kernel_rfl) (by kernel_rfl) (by kernel_rfl) (fun _ _ _ h => h) (Or.inl ⟨by rfl, ?_⟩) (by assumption) ?_
          rotate_left 1
          · (intro w hSw; (try dsimp only at hSw); go_simp; (try with_reducible rfl))
          try simp only [Act.put, List.setIfInBounds_toArray, List.set_cons_zero, List.set_cons_succ]
          refine wpAnyH_take (i := 6) (v := ?_) (by simp only [List.getElem?_toArray, List.getElem?_cons_succ, List.getElem?_cons_zero]; rfl) (by kernel_rfl) (by kernel_rfl) (by kernel_rfl) (fun _ _ _ h => h) (Or.inl ⟨by rfl, ?_⟩) (by assumption) ?_
          rotate_left 1
          · (intro w hSw; (try dsimp only at hSw); go_simp; (try with_reducible rfl))
          try simp only [Act.put, List.setIfInBounds_toArray, List.set_cons_zero, List.set_cons_succ]
          refine wpAnyH_take (i := 7) (v := ?_) (by simp only [List.getElem?_toArray, List.getElem?_cons_succ, List.getElem?_cons_zero]; rfl) (by kernel_rfl) (by kernel_rfl) (by kernel_rfl) (fun _ _ _ h => h) (Or.inl ⟨by rfl, ?_⟩) (by assumption) ?_
          rotate_left 1
          · (intro w hSw; (try dsimp only at hSw); go_simp; (try with_reducible rfl))
          try simp only [Act.put, List.setIfInBounds_toArray, List.set_cons_zero, List.set_cons_succ]
          refine wpAnyH_ready (rs := [9]) (by kernel_rfl) (by simp) ?_
          refine AllReadyH.cons (by simp only [List.getElem?_toArray, List.getElem?_cons_succ, List.getElem?_cons_zero]; rfl) (fun K hK => ?_) AllReadyH.nil
          refine step_stRow rfl rfl rfl rfl BZ9.out (by kernel_rfl) rfl (by simp [Value.oneCell']) ?_
          intro wf hbf hkf
          have hbh := BH9.out.keep hkf (fun e => (BH9.out.ne_ BZ9.out (by decide)) e)
          have hbs := BS9.out.keep hkf (fun e => (BS9.out.ne_ BZ9.out (by decide)) e)
          have HRVf := hide ((RV9.out.keep hkf (fun i _ hp e => by have h1 := hp.1; have h2 := hp.2; have h3 : i = wg1.heap.size := e; have := BZ8.out.lt; omega)).mono (q := fun _ => True) (fun _ _ _ => trivial))
          have HRBf := hide ((RB9.out.keep hkf (fun i _ hp e => by have h1 := hp.1; have h2 := hp.2; have h3 : i = wg1.heap.size := e; have := BZ8.out.lt; omega)).mono (q := fun _ => True) (fun _ _ _ => trivial))
          have HBf := hide hbf
          have HKf := hide (K9.out.trans hkf (fun i hi e => by have h3 : i = wg1.heap.size := e; have := K1.out.size; simp only [World.size_alloc] at *; omega))
          refine hK.out _ _ (SO.out _ hbh hbs) (fun hHeld => ?_)
          clear hK K hkf hbf
          try simp only [Act.put, List.setIfInBounds_toArray, List.set_cons_zero, List.set_cons_succ]
          refine wpAnyH_done (by kernel_rfl) ?_ _
          intro K hK
          go_simp
          refine hK _ _ (NoPanic.normal ?_)
          clear hK K
          refine HK.out _ _ ?_
          rw [← hyy]
          exact HQ.out _ _ _ _ _ _ _ _ _  _ _ _ _ _ _ _ _ _ HKf.out HBf.out HRVf.out HRBf.out
  · go_simp
    have BH10 := hide (BH0.out.keep ((Keep.refl wd Nul).alloc (.cells #[.int .i64 s.what, .int .u8 s.id, .slice A n c, .int .u16 s.prof] 76)) (fun e => e))
    have BS10 := hide (BS0.out.keep ((Keep.refl wd Nul).alloc (.cells #[.int .i64 s.what, .int .u8 s.id, .slice A n c, .int .u16 s.prof] 76)) (fun e => e))
    have K10 := hide (K0.out.trans0 ((Keep.refl wd Nul).alloc (.cells #[.int .i64 s.what, .int .u8 s.id, .slice A n c, .int .u16 s.prof] 76)))
    have SR10 := hide (show SR (World.alloc wd (.cells #[.int .i64 s.what, .int .u8 s.id, .slice A n c, .int .u16 s.prof] 76)) (fun _ => True) (.slice (some ⟨wd.heap.size, 0, none⟩) 1 1) [s] from ⟨[.slice A n c], rfl, fun k t d h1 h2 => by
      have hk : k = 0 := by
        have := (List.getElem?_eq_some_iff.1 h1).1
        simp at this
        exact this
      subst hk
      simp at h1 h2
      subst h1 h2
      have h0 := (HRi.out.keep0 K10.out).mono (q := fun _ => True) (fun _ _ _ => trivial)
      rw [← HNL.out] at h0 ⊢
      exact h0, by
      have ho := (Own.of_lit (e := 76) (sz := 4) wd #[.int .i64 s.what, .int .u8 s.id, .slice A n c, .int .u16 s.prof] 1 (by simp [maxLen]) rfl).rd.mono (q := fun _ => True) (fun _ _ _ => trivial)
      simp only [World.size_alloc] at ho
      exact ho⟩)
    refine hK.out _ _ (SO.out _ BH10.out BS10.out) (fun hHeld => ?_)
    clear hK K
    try simp only [Act.put, List.setIfInBounds_toArray, List.set_cons_zero, List.set_cons_succ]
    refine wpAnyH_ready (rs := [1, 8]) (by kernel_rfl) (by simp) ?_
    refine (AllReadyH.cons (by simp only [List.getElem?_toArray, List.getElem?_cons_succ, List.getElem?_cons_zero]; rfl) (fun K hK => ?_) (AllReadyH.cons (by simp only [List.getElem?_toArray, List.getElem?_cons_succ, List.getElem?_cons_zero]; rfl) (fun K hK => ?_) AllReadyH.nil))
    · go_simp
      go_at_call 20
      refine Calls.mono (show Calls _ _ #[.agg (hcells hd (.slice A1 n1 c1) (.slice A2 n2 c2))] _ _ from given_walk _ (HVi.out.keep0 K10.out) (by omega)) ?_
      rintro e wg11 ⟨kk11, svg, xvg, rfl, hvg⟩
      have BH11 := hide (BH10.out.keep kk11 (fun e => e))
      have BS11 := hide (BS10.out.keep kk11 (fun e => e))
      have K11 := hide (K10.out.trans0 kk11)
      have SR11 := hide (SR10.out.keep kk11 (fun _ _ _ e => e))
      have GV11 := hide hvg
      clear hvg kk11
      simp only []
      refine hK.out _ _ (SO.out _ BH11.out BS11.out) (fun hHeld => ?_)
      clear hK K
      try simp only [Act.put, List.setIfInBounds_toArray, List.set_cons_zero, List.set_cons_succ]
      refine wpAnyH_ready (rs := [4, 8]) (by kernel_rfl) (by simp) ?_
      refine (AllReadyH.cons (by simp only [List.getElem?_toArray, List.getElem?_cons_succ, List.getElem?_cons_zero]; rfl) (fun K hK => ?_) (AllReadyH.cons (by simp only [List.getElem?_toArray, List.getElem?_cons_succ, List.getElem?_cons_zero]; rfl) (fun K hK => ?_) AllReadyH.nil))
      · go_simp
        go_at_call 42
        refine (run_one _ HW.out GV11.out SR11.out hx hs1 hdn hsd (HE.out.keep0 K11.out)).mono ?_
        rintro e wr12 ⟨kk12, X1, m1, d1, X2, m2, d2, X, d, rfl, hrv, hrb⟩
        have BH12 := hide (BH11.out.keep kk12 (fun e => e))
        have BS12 := hide (BS11.out.keep kk12 (fun e => e))
        have K12 := hide (K11.out.trans0 kk12)
        have GV12 := hide (GV11.out.keep0 kk12)
        have SR12 := hide (SR11.out.keep kk12 (fun _ _ _ e => e))
        have RV12 := hide (hrv.mono (q := fun i => wg11.heap.size ≤ i ∧ i < wr12.heap.size) (fun i hi hp => ⟨hp, hi⟩))
        have RB12 := hide (hrb.mono (q := fun i => wg11.heap.size ≤ i ∧ i < wr12.heap.size) (fun i hi hp => ⟨hp, hi⟩))
        clear hrv hrb kk12
        simp only []
        refine hK.out _ _ (SO.out _ BH12.out BS12.out) (fun hHeld => ?_)
        clear hK K
        try simp only [Act.put, List.setIfInBounds_toArray, List.set_cons_zero, List.set_cons_succ]
        unfold hcells
        refine wpAnyH_take (i := 5) (v := ?_) (by simp only [List.getElem?_toArray, List.getElem?_cons_succ, List.getElem?_cons_zero]; rfl) (by kernel_rfl) (by kernel_rfl) (by kernel_rfl) (fun _ _ _ h => h) (Or.inl ⟨by rfl, ?_⟩) (by assumption) ?_
        rotate_left 1
        · (intro w hSw; (try dsimp only at hSw); go_simp; (try with_reducible rfl))
        try simp only [Act.put, List.setIfInBounds_toArray, List.set_cons_zero, List.set_cons_succ]
        refine wpAnyH_take (i := 6) (v := ?_) (by simp only [List.getElem?_toArray, List.getElem?_cons_succ, List.getElem?_cons_zero]; rfl) (by kernel_rfl) (by kernel_rfl) (by kernel_rfl) (fun _ _ _ h => h) (Or.inl ⟨by rfl, ?_⟩) (by assumption) ?_
        rotate_left 1
        · (intro w hSw; (try dsimp only at hSw); go_simp; (try with_reducible rfl))
        try simp only [Act.put, List.setIfInBounds_toArray, List.set_cons_zero, List.set_cons_succ]
        refine wpAnyH_take (i := 7) (v := ?_) (by simp only [List.getElem?_toArray, List.getElem?_cons_succ, List.getElem?_cons_zero]; rfl) (by kernel_rfl) (by kernel_rfl) (by kernel_rfl) (fun _ _ _ h => h) (Or.inl ⟨by rfl, ?_⟩) (by assumption) ?_
        rotate_left 1
        · (intro w hSw; (try dsimp only at hSw); go_simp; (try with_reducible rfl))
        try simp only [Act.put, List.setIfInBounds_toArray, List.set_cons_zero, List.set_cons_succ]
        refine wpAnyH_ready (rs := [8]) (by kernel_rfl) (by simp) ?_
        refine (AllReadyH.cons (by simp only [List.getElem?_toArray, List.getElem?_cons_succ, List.getElem?_cons_zero]; rfl) (fun K hK => ?_) AllReadyH.nil)
        · go_simp
          have BH13 := hide (BH12.out.keep ((Keep.refl wr12 Nul).alloc (.cells (hcells hd0 (.slice none 0 0) (.slice none 0 0)) 35)) (fun e => e))
          have BS13 := hide (BS12.out.keep ((Keep.refl wr12 Nul).alloc (.cells (hcells hd0 (.slice none 0 0) (.slice none 0 0)) 35)) (fun e => e))
          have K13 := hide (K12.out.trans0 ((Keep.refl wr12 Nul).alloc (.cells (hcells hd0 (.slice none 0 0) (.slice none 0 0)) 35)))
          have GV13 := hide (GV12.out.keep0 ((Keep.refl wr12 Nul).alloc (.cells (hcells hd0 (.slice none 0 0) (.slice none 0 0)) 35)))
          have SR13 := hide (SR12.out.keep ((Keep.refl wr12 Nul).alloc (.cells (hcells hd0 (.slice none 0 0) (.slice none 0 0)) 35)) (fun _ _ _ e => e))
          have RV13 := hide (RV12.out.keep0 ((Keep.refl wr12 Nul).alloc (.cells (hcells hd0 (.slice none 0 0) (.slice none 0 0)) 35)))
          have RB13 := hide (RB12.out.keep0 ((Keep.refl wr12 Nul).alloc (.cells (hcells hd0 (.slice none 0 0) (.slice none 0 0)) 35)))
          have BZ13 := hide (show Blk (World.alloc wr12 (.cells (hcells hd0 (.slice none 0 0) (.slice none 0 0)) 35)) (wr12.heap.size) 35 (hcells hd0 (.slice none 0 0) (.slice none 0 0)) from Blk.new' (by first | rfl | simp only [World.size_alloc]))
          refine hK.out _ _ (SO.out _ BH13.out BS13.out) (fun hHeld => ?_)
          clear hK K
          try simp only [Act.put, List.setIfInBounds_toArray, List.set_cons_zero, List.set_cons_succ]
          refine wpAnyH_ready (rs := [9]) (by kernel_rfl) (by simp) ?_
          refine AllReadyH.cons (by simp only [List.getElem?_toArray, List.getElem?_cons_succ, List.getElem?_cons_zero]; rfl) (fun K hK => ?_) AllReadyH.nil
          refine step_stRow rfl rfl rfl rfl BZ13.out (by kernel_rfl) rfl (by simp [Value.oneCell']) ?_
          intro wf hbf hkf
          have hbh := BH13.out.keep hkf (fun e => (BH13.out.ne_ BZ13.out (by decide)) e)
          have hbs := BS13.out.keep hkf (fun e => (BS13.out.ne_ BZ13.out (by decide)) e)
          have HRVf := hide ((RV13.out.keep hkf (fun i _ hp e => by have h1 := hp.1; have h2 := hp.2; have h3 : i = wr12.heap.size := e; omega)).mono (q := fun _ => True) (fun _ _ _ => trivial))
          have HRBf := hide ((RB13.out.keep hkf (fun i _ hp e => by have h1 := hp.1; have h2 := hp.2; have h3 : i = wr12.heap.size := e; omega)).mono (q := fun _ => True) (fun _ _ _ => trivial))
          have HBf := hide hbf
          have HKf := hide (K13.out.trans hkf (fun i hi e => by have h3 : i = wr12.heap.size := e; have := K12.out.size; simp only [World.size_alloc] at *; omega))
          refine hK.out _ _ (SO.out _ hbh hbs) (fun hHeld => ?_)
          clear hK K hkf hbf
          try simp only [Act.put, List.setIfInBounds_toArray, List.set_cons_zero, List.set_cons_succ]
          refine wpAnyH_done (by kernel_rfl) ?_ _
          intro K hK
          go_simp
          refine hK _ _ (NoPanic.normal ?_)
          clear hK K
          refine HK.out _ _ ?_
          rw [← hyy]
          exact HQ.out _ _ _ _ _ _ _ _ _  _ _ _ _ _ _ _ _ _ HKf.out HBf.out HRVf.out HRBf.out
      · go_simp
        have BH14 := hide (BH11.out.keep ((Keep.refl wg11 Nul).alloc (.cells (hcells hd0 (.slice none 0 0) (.slice none 0 0)) 35)) (fun e => e))
        have BS14 := hide (BS11.out.keep ((Keep.refl wg11 Nul).alloc (.cells (hcells hd0 (.slice none 0 0) (.slice none 0 0)) 35)) (fun e => e))
        have K14 := hide (K11.out.trans0 ((Keep.refl wg11 Nul).alloc (.cells (hcells hd0 (.slice none 0 0) (.slice none 0 0)) 35)))
        have GV14 := hide (GV11.out.keep0 ((Keep.refl wg11 Nul).alloc (.cells (hcells hd0 (.slice none 0 0) (.slice none 0 0)) 35)))
        have SR14 := hide (SR11.out.keep ((Keep.refl wg11 Nul).alloc (.cells (hcells hd0 (.slice none 0 0) (.slice none 0 0)) 35)) (fun _ _ _ e => e))
        have BZ14 := hide (show Blk (World.alloc wg11 (.cells (hcells hd0 (.slice none 0 0) (.slice none 0 0)) 35)) (wg11.heap.size) 35 (hcells hd0 (.slice none 0 0) (.slice none 0 0)) from Blk.new' (by first | rfl | simp only [World.size_alloc]))
        refine hK.out _ _ (SO.out _ BH14.out BS14.out) (fun hHeld => ?_)
        clear hK K
        try simp only [Act.put, List.setIfInBounds_toArray, List.set_cons_zero, List.set_cons_succ]
        refine wpAnyH_ready (rs := [4]) (by kernel_rfl) (by simp) ?_
        refine (AllReadyH.cons (by simp only [List.getElem?_toArray, List.getElem?_cons_succ, List.getElem?_cons_zero]; rfl) (fun K hK => ?_) AllReadyH.nil)
        · go_simp
          go_at_call 42
          refine (run_one _ HW.out GV14.out SR14.out hx hs1 hdn hsd (HE.out.keep0 K14.out)).mono ?_
          rintro e wr15 ⟨kk15, X1, m1, d1, X2, m2, d2, X, d, rfl, hrv, hrb⟩
          have BH15 := hide (BH14.out.keep kk15 (fun e => e))
          have BS15 := hide (BS14.out.keep kk15 (fun e => e))
          have K15 := hide (K14.out.trans0 kk15)
          have GV15 := hide (GV14.out.keep0 kk15)
          have SR15 := hide (SR14.out.keep kk15 (fun _ _ _ e => e))
          have BZ15 := hide (BZ14.out.keep kk15 (fun e => e))
          have RV15 := hide (hrv.mono (q := fun i => (World.alloc wg11 (.cells (hcells hd0 (.slice none 0 0) (.slice none 0 0)) 35)).heap.size ≤ i ∧ i < wr15.heap.size) (fun i hi hp => ⟨hp, hi⟩))
          have RB15 := hide (hrb.mono (q := fun i => (World.alloc wg11 (.cells (hcells hd0 (.slice none 0 0) (.slice none 0 0)) 35)).heap.size ≤ i ∧ i < wr15.heap.size) (fun i hi hp => ⟨hp, hi⟩))
          clear hrv hrb kk15
          simp only []
          refine hK.out _ _ (SO.out _ BH15.out BS15.out) (fun hHeld => ?_)
          clear hK K
          try simp only [Act.put, List.setIfInBounds_toArray, List.set_cons_zero, List.set_cons_succ]
          unfold hcells
          refine wpAnyH_take (i := 5) (v := ?_) (by simp only [List.getElem?_toArray, List.getElem?_cons_succ, List.getElem?_cons_zero]; rfl) (by kernel_rfl) (by kernel_rfl) (by kernel_rfl) (fun _ _ _ h => h) (Or.inl ⟨by rfl, ?_⟩) (by assumption) ?_
          rotate_left 1
          · (intro w hSw; (try dsimp only at hSw); go_simp; (try with_reducible rfl))
          try simp only [Act.put, List.setIfInBounds_toArray, List.set_cons_zero, List.set_cons_succ]
          refine wpAnyH_take (i := 6) (v := ?_) (by simp only [List.getElem?_toArray, List.getElem?_cons_succ, List.getElem?_cons_zero]; rfl) (by kernel_rfl) (by kernel_rfl) (by kernel_rfl) (fun _ _ _ h => h) (Or.inl ⟨by rfl, ?_⟩) (by assumption) ?_
          rotate_left 1
          · (intro w hSw; (try dsimp only at hSw); go_simp; (try with_reducible rfl))
          try simp only [Act.put, List.setIfInBounds_toArray, List.set_cons_zero, List.set_cons_succ]
          refine wpAnyH_take (i := 7) (v := ?_) (by simp only [List.getElem?_toArray, List.getElem?_cons_succ, List.getElem?_cons_zero]; rfl) (by kernel_rfl) (by kernel_rfl) (by kernel_rfl) (fun _ _ _ h => h) (Or.inl ⟨by rfl, ?_⟩) (by assumption) ?_
          rotate_left 1
          · (intro w hSw; (try dsimp only at hSw); go_simp; (try with_reducible rfl))
          try simp only [Act.put, List.setIfInBounds_toArray, List.set_cons_zero, List.set_cons_succ]
          refine wpAnyH_ready (rs := [9]) (by kernel_rfl) (by simp) ?_
          refine AllReadyH.cons (by simp only [List.getElem?_toArray, List.getElem?_cons_succ, List.getElem?_cons_zero]; rfl) (fun K hK => ?_) AllReadyH.nil
          refine step_stRow rfl rfl rfl rfl BZ15.out (by kernel_rfl) rfl (by simp [Value.oneCell']) ?_
          intro wf hbf hkf
          have hbh := BH15.out.keep hkf (fun e => (BH15.out.ne_ BZ15.out (by decide)) e)
          have hbs := BS15.out.keep hkf (fun e => (BS15.out.ne_ BZ15.out (by decide)) e)
          have HRVf := hide ((RV15.out.keep hkf (fun i _ hp e => by have h1 := hp.1; have h2 := hp.2; have h3 : i = wg11.heap.size := e; have := BZ14.out.lt; omega)).mono (q := fun _ => True) (fun _ _ _ => trivial))
          have HRBf := hide ((RB15.out.keep hkf (fun i _ hp e => by have h1 := hp.1; have h2 := hp.2; have h3 : i = wg11.heap.size := e; have := BZ14.out.lt; omega)).mono (q := fun _ => True) (fun _ _ _ => trivial))
          have HBf := hide hbf
          have HKf := hide (K15.out.trans hkf (fun i hi e => by have h3 : i = wg11.heap.size := e; have := K11.out.size; simp only [World.size_alloc] at *; omega))
          refine hK.out _ _ (SO.out _ hbh hbs) (fun hHeld => ?_)
          clear hK K hkf hbf
          try simp only [Act.put, List.setIfInBounds_toArray, List.set_cons_zero, List.set_cons_succ]
          refine wpAnyH_done (by kernel_rfl) ?_ _
          intro K hK
          go_simp
          refine hK _ _ (NoPanic.normal ?_)
          clear hK K
          refine HK.out _ _ ?_
          rw [← hyy]
          exact HQ.out _ _ _ _ _ _ _ _ _  _ _ _ _ _ _ _ _ _ HKf.out HBf.out HRVf.out HRBf.out
    · go_simp
      have BH16 := hide (BH10.out.keep ((Keep.refl (World.alloc wd (.cells #[.int .i64 s.what, .int .u8 s.id, .slice A n c, .int .u16 s.prof] 76)) Nul).alloc (.cells (hcells hd0 (.slice none 0 0) (.slice none 0 0)) 35)) (fun e => e))
      have BS16 := hide (BS10.out.keep ((Keep.refl (World.alloc wd (.cells #[.int .i64 s.what, .int .u8 s.id, .slice A n c, .int .u16 s.prof] 76)) Nul).alloc (.cells (hcells hd0 (.slice none 0 0) (.slice none 0 0)) 35)) (fun e => e))
      have K16 := hide (K10.out.trans0 ((Keep.refl (World.alloc wd (.cells #[.int .i64 s.what, .int .u8 s.id, .slice A n c, .int .u16 s.prof] 76)) Nul).alloc (.cells (hcells hd0 (.slice none 0 0) (.slice none 0 0)) 35)))
      have SR16 := hide (SR10.out.keep ((Keep.refl (World.alloc wd (.cells #[.int .i64 s.what, .int .u8 s.id, .slice A n c, .int .u16 s.prof] 76)) Nul).alloc (.cells (hcells hd0 (.slice none 0 0) (.slice none 0 0)) 35)) (fun _ _ _ e => e))
      have BZ16 := hide (show Blk (World.alloc (World.alloc wd (.cells #[.int .i64 s.what, .int .u8 s.id, .slice A n c, .int .u16 s.prof] 76)) (.cells (hcells hd0 (.slice none 0 0) (.slice none 0 0)) 35)) (wd.heap.size + 1) 35 (hcells hd0 (.slice none 0 0) (.slice none 0 0)) from Blk.new' (by first | rfl | simp only [World.size_alloc]))
      refine hK.out _ _ (SO.out _ BH16.out BS16.out) (fun hHeld => ?_)
      clear hK K
      try simp only [Act.put, List.setIfInBounds_toArray, List.set_cons_zero, List.set_cons_succ]
      refine wpAnyH_ready (rs := [1]) (by kernel_rfl) (by simp) ?_
      refine (AllReadyH.cons (by simp only [List.getElem?_toArray, List.getElem?_cons_succ, List.getElem?_cons_zero]; rfl) (fun K hK => ?_) AllReadyH.nil)
      · go_simp
        go_at_call 20
        refine Calls.mono (show Calls _ _ #[.agg (hcells hd (.slice A1 n1 c1) (.slice A2 n2 c2))] _ _ from given_walk _ (HVi.out.keep0 K16.out) (by omega)) ?_
        rintro e wg17 ⟨kk17, svg, xvg, rfl, hvg⟩
        have BH17 := hide (BH16.out.keep kk17 (fun e => e))
        have BS17 := hide (BS16.out.keep kk17 (fun e => e))
        have K17 := hide (K16.out.trans0 kk17)
        have SR17 := hide (SR16.out.keep kk17 (fun _ _ _ e => e))
        have BZ17 := hide (BZ16.out.keep kk17 (fun e => e))
        have GV17 := hide hvg
        clear hvg kk17
        simp only []
        refine hK.out _ _ (SO.out _ BH17.out BS17.out) (fun hHeld => ?_)
        clear hK K
        try simp only [Act.put, List.setIfInBounds_toArray, List.set_cons_zero, List.set_cons_succ]
        refine wpAnyH_ready (rs := [4]) (by kernel_rfl) (by simp) ?_
        refine (AllReadyH.cons (by simp only [List.getElem?_toArray, List.getElem?_cons_succ, List.getElem?_cons_zero]; rfl) (fun K hK => ?_) AllReadyH.nil)
        · go_simp
          go_at_call 42
          refine (run_one _ HW.out GV17.out SR17.out hx hs1 hdn hsd (HE.out.keep0 K17.out)).mono ?_
          rintro e wr18 ⟨kk18, X1, m1, d1, X2, m2, d2, X, d, rfl, hrv, hrb⟩
          have BH18 := hide (BH17.out.keep kk18 (fun e => e))
          have BS18 := hide (BS17.out.keep kk18 (fun e => e))
          have K18 := hide (K17.out.trans0 kk18)
          have GV18 := hide (GV17.out.keep0 kk18)
          have SR18 := hide (SR17.out.keep kk18 (fun _ _ _ e => e))
          have BZ18 := hide (BZ17.out.keep kk18 (fun e => e))
          have RV18 := hide (hrv.mono (q := fun i => wg17.heap.size ≤ i ∧ i < wr18.heap.size) (fun i hi hp => ⟨hp, hi⟩))
          have RB18 := hide (hrb.mono (q := fun i => wg17.heap.size ≤ i ∧ i < wr18.heap.size) (fun i hi hp => ⟨hp, hi⟩))
          clear hrv hrb kk18
          simp only []
          refine hK.out _ _ (SO.out _ BH18.out BS18.out) (fun hHeld => ?_)
          clear hK K
          try simp only [Act.put, List.setIfInBounds_toArray, List.set_cons_zero, List.set_cons_succ]
          unfold hcells
          refine wpAnyH_take (i := 5) (v := ?_) (by simp only [List.getElem?_toArray, List.getElem?_cons_succ, List.getElem?_cons_zero]; rfl) (by kernel_rfl) (by kernel_rfl) (by kernel_rfl) (fun _ _ _ h => h) (Or.inl ⟨by rfl, ?_⟩) (by assumption) ?_
          rotate_left 1
          · (intro w hSw; (try dsimp only at hSw); go_simp; (try with_reducible rfl))
          try simp only [Act.put, List.setIfInBounds_toArray, List.set_cons_zero, List.set_cons_succ]
          refine wpAnyH_take (i := 6) (v := ?_) (by simp only [List.getElem?_toArray, List.getElem?_cons_succ, List.getElem?_cons_zero]; rfl) (by kernel_rfl) (by kernel_rfl) (by kernel_rfl) (fun _ _ _ h => h) (Or.inl ⟨by rfl, ?_⟩) (by assumption) ?_
          rotate_left 1
          · (intro w hSw; (try dsimp only at hSw); go_simp; (try with_reducible rfl))
          try simp only [Act.put, List.setIfInBounds_toArray, List.set_cons_zero, List.set_cons_succ]
          refine wpAnyH_take (i := 7) (v := ?_) (by simp only [List.getElem?_toArray, List.getElem?_cons_succ, List.getElem?_cons_zero]; rfl) (by kernel_rfl) (by kernel_rfl) (by kernel_rfl) (fun _ _ _ h => h) (Or.inl ⟨by rfl, ?_⟩) (by assumption) ?_
          rotate_left 1
          · (intro w hSw; (try dsimp only at hSw); go_simp; (try with_reducible rfl))
          try simp only [Act.put, List.setIfInBounds_toArray, List.set_cons_zero, List.set_cons_succ]
          refine wpAnyH_ready (rs := [9]) (by kernel_rfl) (by simp) ?_
          refine AllReadyH.cons (by simp only [List.getElem?_toArray, List.getElem?_cons_succ, List.getElem?_cons_zero]; rfl) (fun K hK => ?_) AllReadyH.nil
          refine step_stRow rfl rfl rfl rfl BZ18.out (by kernel_rfl) rfl (by simp [Value.oneCell']) ?_
          intro wf hbf hkf
          have hbh := BH18.out.keep hkf (fun e => (BH18.out.ne_ BZ18.out (by decide)) e)
          have hbs := BS18.out.keep hkf (fun e => (BS18.out.ne_ BZ18.out (by decide)) e)
          have HRVf := hide ((RV18.out.keep hkf (fun i _ hp e => by have h1 := hp.1; have h2 := hp.2; have h3 : i = wd.heap.size + 1 := e; have := BZ17.out.lt; omega)).mono (q := fun _ => True) (fun _ _ _ => trivial))
          have HRBf := hide ((RB18.out.keep hkf (fun i _ hp e => by have h1 := hp.1; have h2 := hp.2; have h3 : i = wd.heap.size + 1 := e; have := BZ17.out.lt; omega)).mono (q := fun _ => True) (fun _ _ _ => trivial))
          have HBf := hide hbf
          have HKf := hide (K18.out.trans hkf (fun i hi e => by have h3 : i = wd.heap.size + 1 := e; have := K10.out.size; simp only [World.size_alloc] at *; omega))
          refine hK.out _ _ (SO.out _ hbh hbs) (fun hHeld => ?_)
          clear hK K hkf hbf
          try simp only [Act.put, List.setIfInBounds_toArray, List.set_cons_zero, List.set_cons_succ]
          refine wpAnyH_done (by kernel_rfl) ?_ _
          intro K hK
          go_simp
          refine hK _ _ (NoPanic.normal ?_)
          clear hK K
          refine HK.out _ _ ?_
          rw [← hyy]
          exact HQ.out _ _ _ _ _ _ _ _ _  _ _ _ _ _ _ _ _ _ HKf.out HBf.out HRVf.out HRBf.out
  · go_simp
    have BH19 := hide (BH0.out.keep ((Keep.refl wd Nul).alloc (.cells (hcells hd0 (.slice none 0 0) (.slice none 0 0)) 35)) (fun e => e))
    have BS19 := hide (BS0.out.keep ((Keep.refl wd Nul).alloc (.cells (hcells hd0 (.slice none 0 0) (.slice none 0 0)) 35)) (fun e => e))
    have K19 := hide (K0.out.trans0 ((Keep.refl wd Nul).alloc (.cells (hcells hd0 (.slice none 0 0) (.slice none 0 0)) 35)))
    have BZ19 := hide (show Blk (World.alloc wd (.cells (hcells hd0 (.slice none 0 0) (.slice none 0 0)) 35)) (wd.heap.size) 35 (hcells hd0 (.slice none 0 0) (.slice none 0 0)) from Blk.new' (by first | rfl | simp only [World.size_alloc]))
    refine hK.out _ _ (SO.out _ BH19.out BS19.out) (fun hHeld => ?_)
    clear hK K
    try simp only [Act.put, List.setIfInBounds_toArray, List.set_cons_zero, List.set_cons_succ]
    refine wpAnyH_ready (rs := [1, 3]) (by kernel_rfl) (by simp) ?_
    refine (AllReadyH.cons (by simp only [List.getElem?_toArray, List.getElem?_cons_succ, List.getElem?_cons_zero]; rfl) (fun K hK => ?_) (AllReadyH.cons (by simp only [List.getElem?_toArray, List.getElem?_cons_succ, List.getElem?_cons_zero]; rfl) (fun K hK => ?_) AllReadyH.nil))
    · go_simp
      go_at_call 20
      refine Calls.mono (show Calls _ _ #[.agg (hcells hd (.slice A1 n1 c1) (.slice A2 n2 c2))] _ _ from given_walk _ (HVi.out.keep0 K19.out) (by omega)) ?_
      rintro e wg20 ⟨kk20, svg, xvg, rfl, hvg⟩
      have BH20 := hide (BH19.out.keep kk20 (fun e => e))
      have BS20 := hide (BS19.out.keep kk20 (fun e => e))
      have K20 := hide (K19.out.trans0 kk20)
      have BZ20 := hide (BZ19.out.keep kk20 (fun e => e))
      have GV20 := hide hvg
      clear hvg kk20
      simp only []
      refine hK.out _ _ (SO.out _ BH20.out BS20.out) (fun hHeld => ?_)
      clear hK K
      try simp only [Act.put, List.setIfInBounds_toArray, List.set_cons_zero, List.set_cons_succ]
      refine wpAnyH_ready (rs := [3]) (by kernel_rfl) (by simp) ?_
      refine (AllReadyH.cons (by simp only [List.getElem?_toArray, List.getElem?_cons_succ, List.getElem?_cons_zero]; rfl) (fun K hK => ?_) AllReadyH.nil)
      · go_simp
        have BH21 := hide (BH20.out.keep ((Keep.refl wg20 Nul).alloc (.cells #[.int .i64 s.what, .int .u8 s.id, .slice A n c, .int .u16 s.prof] 76)) (fun e => e))
        have BS21 := hide (BS20.out.keep ((Keep.refl wg20 Nul).alloc (.cells #[.int .i64 s.what, .int .u8 s.id, .slice A n c, .int .u16 s.prof] 76)) (fun e => e))
        have K21 := hide (K20.out.trans0 ((Keep.refl wg20 Nul).alloc (.cells #[.int .i64 s.what, .int .u8 s.id, .slice A n c, .int .u16 s.prof] 76)))
        have GV21 := hide (GV20.out.keep0 ((Keep.refl wg20 Nul).alloc (.cells #[.int .i64 s.what, .int .u8 s.id, .slice A n c, .int .u16 s.prof] 76)))
        have BZ21 := hide (BZ20.out.keep ((Keep.refl wg20 Nul).alloc (.cells #[.int .i64 s.what, .int .u8 s.id, .slice A n c, .int .u16 s.prof] 76)) (fun e => e))
        have SR21 := hide (show SR (World.alloc wg20 (.cells #[.int .i64 s.what, .int .u8 s.id, .slice A n c, .int .u16 s.prof] 76)) (fun _ => True) (.slice (some ⟨wg20.heap.size, 0, none⟩) 1 1) [s] from ⟨[.slice A n c], rfl, fun k t d h1 h2 => by
          have hk : k = 0 := by
            have := (List.getElem?_eq_some_iff.1 h1).1
            simp at this
            exact this
          subst hk
          simp at h1 h2
          subst h1 h2
          have h0 := (HRi.out.keep0 K21.out).mono (q := fun _ => True) (fun _ _ _ => trivial)
          rw [← HNL.out] at h0 ⊢
          exact h0, by
          have ho := (Own.of_lit (e := 76) (sz := 4) wg20 #[.int .i64 s.what, .int .u8 s.id, .slice A n c, .int .u16 s.prof] 1 (by simp [maxLen]) rfl).rd.mono (q := fun _ => True) (fun _ _ _ => trivial)
          simp only [World.size_alloc] at ho
          exact ho⟩)
        refine hK.out _ _ (SO.out _ BH21.out BS21.out) (fun hHeld => ?_)
        clear hK K
        try simp only [Act.put, List.setIfInBounds_toArray, List.set_cons_zero, List.set_cons_succ]
        refine wpAnyH_ready (rs := [4]) (by kernel_rfl) (by simp) ?_
        refine (AllReadyH.cons (by simp only [List.getElem?_toArray, List.getElem?_cons_succ, List.getElem?_cons_zero]; rfl) (fun K hK => ?_) AllReadyH.nil)
        · go_simp
          go_at_call 42
          refine (run_one _ HW.out GV21.out SR21.out hx hs1 hdn hsd (HE.out.keep0 K21.out)).mono ?_
          rintro e wr22 ⟨kk22, X1, m1, d1, X2, m2, d2, X, d, rfl, hrv, hrb⟩
          have BH22 := hide (BH21.out.keep kk22 (fun e => e))
          have BS22 := hide (BS21.out.keep kk22 (fun e => e))
          have K22 := hide (K21.out.trans0 kk22)
          have GV22 := hide (GV21.out.keep0 kk22)
          have SR22 := hide (SR21.out.keep kk22 (fun _ _ _ e => e))
          have BZ22 := hide (BZ21.out.keep kk22 (fun e => e))
          have RV22 := hide (hrv.mono (q := fun i => (World.alloc wg20 (.cells #[.int .i64 s.what, .int .u8 s.id, .slice A n c, .int .u16 s.prof] 76)).heap.size ≤ i ∧ i < wr22.heap.size) (fun i hi hp => ⟨hp, hi⟩))
          have RB22 := hide (hrb.mono (q := fun i => (World.alloc wg20 (.cells #[.int .i64 s.what, .int .u8 s.id, .slice A n c, .int .u16 s.prof] 76)).heap.size ≤ i ∧ i < wr22.heap.size) (fun i hi hp => ⟨hp, hi⟩))
          clear hrv hrb kk22
          simp only []
          refine hK.out _ _ (SO.out _ BH22.out BS22.out) (fun hHeld => ?_)
          clear hK K
          try simp only [Act.put, List.setIfInBounds_toArray, List.set_cons_zero, List.set_cons_succ]
          unfold hcells
          refine wpAnyH_take (i := 5) (v := ?_) (by simp only [List.getElem?_toArray, List.getElem?_cons_succ, List.getElem?_cons_zero]; rfl) (by kernel_rfl) (by kernel_rfl) (by kernel_rfl) (fun _ _ _ h => h) (Or.inl ⟨by rfl, ?_⟩) (by assumption) ?_
          rotate_left 1
          · (intro w hSw; (try dsimp only at hSw); go_simp; (try with_reducible rfl))
          try simp only [Act.put, List.setIfInBounds_toArray, List.set_cons_zero, List.set_cons_succ]
          refine wpAnyH_take (i := 6) (v := ?_) (by simp only [List.getElem?_toArray, List.getElem?_cons_succ, List.getElem?_cons_zero]; rfl) (by kernel_rfl) (by kernel_rfl) (by kernel_rfl) (fun _ _ _ h => h) (Or.inl ⟨by rfl, ?_⟩) (by assumption) ?_
          rotate_left 1
          · (intro w hSw; (try dsimp only at hSw); go_simp; (try with_reducible rfl))
          try simp only [Act.put, List.setIfInBounds_toArray, List.set_cons_zero, List.set_cons_succ]
          refine wpAnyH_take (i := 7) (v := ?_) (by simp only [List.getElem?_toArray, List.getElem?_cons_succ, List.getElem?_cons_zero]; rfl) (by kernel_rfl) (by kernel_rfl) (by kernel_rfl) (fun _ _ _ h => h) (Or.inl ⟨by rfl, ?_⟩) (by assumption) ?_
          rotate_left 1
          · (intro w hSw; (try dsimp only at hSw); go_simp; (try with_reducible rfl))
          try simp only [Act.put, List.setIfInBounds_toArray, List.set_cons_zero, List.set_cons_succ]
          refine wpAnyH_ready (rs := [9]) (by kernel_rfl) (by simp) ?_
          refine AllReadyH.cons (by simp only [List.getElem?_toArray, List.getElem?_cons_succ, List.getElem?_cons_zero]; rfl) (fun K hK => ?_) AllReadyH.nil
          refine step_stRow rfl rfl rfl rfl BZ22.out (by kernel_rfl) rfl (by simp [Value.oneCell']) ?_
          intro wf hbf hkf
          have hbh := BH22.out.keep hkf (fun e => (BH22.out.ne_ BZ22.out (by decide)) e)
          have hbs := BS22.out.keep hkf (fun e => (BS22.out.ne_ BZ22.out (by decide)) e)
          have HRVf := hide ((RV22.out.keep hkf (fun i _ hp e => by have h1 := hp.1; have h2 := hp.2; have h3 : i = wd.heap.size := e; have := BZ21.out.lt; omega)).mono (q := fun _ => True) (fun _ _ _ => trivial))
          have HRBf := hide ((RB22.out.keep hkf (fun i _ hp e => by have h1 := hp.1; have h2 := hp.2; have h3 : i = wd.heap.size := e; have := BZ21.out.lt; omega)).mono (q := fun _ => True) (fun _ _ _ => trivial))
          have HBf := hide hbf
          have HKf := hide (K22.out.trans hkf (fun i hi e => by have h3 : i = wd.heap.size := e; have := K0.out.size; simp only [World.size_alloc] at *; omega))
          refine hK.out _ _ (SO.out _ hbh hbs) (fun hHeld => ?_)
          clear hK K hkf hbf
          try simp only [Act.put, List.setIfInBounds_toArray, List.set_cons_zero, List.set_cons_succ]
          refine wpAnyH_done (by kernel_rfl) ?_ _
          intro K hK
          go_simp
          refine hK _ _ (NoPanic.normal ?_)
          clear hK K
          refine HK.out _ _ ?_
          rw [← hyy]
          exact HQ.out _ _ _ _ _ _ _ _ _  _ _ _ _ _ _ _ _ _ HKf.out HBf.out HRVf.out HRBf.out
    · go_simp
      have BH23 := hide (BH19.out.keep ((Keep.refl (World.alloc wd (.cells (hcells hd0 (.slice none 0 0) (.slice none 0 0)) 35)) Nul).alloc (.cells #[.int .i64 s.what, .int .u8 s.id, .slice A n c, .int .u16 s.prof] 76)) (fun e => e))
      have BS23 := hide (BS19.out.keep ((Keep.refl (World.alloc wd (.cells (hcells hd0 (.slice none 0 0) (.slice none 0 0)) 35)) Nul).alloc (.cells #[.int .i64 s.what, .int .u8 s.id, .slice A n c, .int .u16 s.prof] 76)) (fun e => e))
      have K23 := hide (K19.out.trans0 ((Keep.refl (World.alloc wd (.cells (hcells hd0 (.slice none 0 0) (.slice none 0 0)) 35)) Nul).alloc (.cells #[.int .i64 s.what, .int .u8 s.id, .slice A n c, .int .u16 s.prof] 76)))
      have BZ23 := hide (BZ19.out.keep ((Keep.refl (World.alloc wd (.cells (hcells hd0 (.slice none 0 0) (.slice none 0 0)) 35)) Nul).alloc (.cells #[.int .i64 s.what, .int .u8 s.id, .slice A n c, .int .u16 s.prof] 76)) (fun e => e))
      have SR23 := hide (show SR (World.alloc (World.alloc wd (.cells (hcells hd0 (.slice none 0 0) (.slice none 0 0)) 35)) (.cells #[.int .i64 s.what, .int .u8 s.id, .slice A n c, .int .u16 s.prof] 76)) (fun _ => True) (.slice (some ⟨wd.heap.size + 1, 0, none⟩) 1 1) [s] from ⟨[.slice A n c], rfl, fun k t d h1 h2 => by
        have hk : k = 0 := by
          have := (List.getElem?_eq_some_iff.1 h1).1
          simp at this
          exact this
        subst hk
        simp at h1 h2
        subst h1 h2
        have h0 := (HRi.out.keep0 K23.out).mono (q := fun _ => True) (fun _ _ _ => trivial)
        rw [← HNL.out] at h0 ⊢
        exact h0, by
        have ho := (Own.of_lit (e := 76) (sz := 4) (World.alloc wd (.cells (hcells hd0 (.slice none 0 0) (.slice none 0 0)) 35)) #[.int .i64 s.what, .int .u8 s.id, .slice A n c, .int .u16 s.prof] 1 (by simp [maxLen]) rfl).rd.mono (q := fun _ => True) (fun _ _ _ => trivial)
        simp only [World.size_alloc] at ho
        exact ho⟩)
      refine hK.out _ _ (SO.out _ BH23.out BS23.out) (fun hHeld => ?_)
      clear hK K
      try simp only [Act.put, List.setIfInBounds_toArray, List.set_cons_zero, List.set_cons_succ]
      refine wpAnyH_ready (rs := [1]) (by kernel_rfl) (by simp) ?_
      refine (AllReadyH.cons (by simp only [List.getElem?_toArray, List.getElem?_cons_succ, List.getElem?_cons_zero]; rfl) (fun K hK => ?_) AllReadyH.nil)
      · go_simp
        go_at_call 20
        refine Calls.mono (show Calls _ _ #[.agg (hcells hd (.slice A1 n1 c1) (.slice A2 n2 c2))] _ _ from given_walk _ (HVi.out.keep0 K23.out) (by omega)) ?_
        rintro e wg24 ⟨kk24, svg, xvg, rfl, hvg⟩
        have BH24 := hide (BH23.out.keep kk24 (fun e => e))
        have BS24 := hide (BS23.out.keep kk24 (fun e => e))
        have K24 := hide (K23.out.trans0 kk24)
        have SR24 := hide (SR23.out.keep kk24 (fun _ _ _ e => e))
        have BZ24 := hide (BZ23.out.keep kk24 (fun e => e))
        have GV24 := hide hvg
        clear hvg kk24
        simp only []
        refine hK.out _ _ (SO.out _ BH24.out BS24.out) (fun hHeld => ?_)
        clear hK K
        try simp only [Act.put, List.setIfInBounds_toArray, List.set_cons_zero, List.set_cons_succ]
        refine wpAnyH_ready (rs := [4]) (by kernel_rfl) (by simp) ?_
        refine (AllReadyH.cons (by simp only [List.getElem?_toArray, List.getElem?_cons_succ, List.getElem?_cons_zero]; rfl) (fun K hK => ?_) AllReadyH.nil)
        · go_simp
          go_at_call 42
          refine (run_one _ HW.out GV24.out SR24.out hx hs1 hdn hsd (HE.out.keep0 K24.out)).mono ?_
          rintro e wr25 ⟨kk25, X1, m1, d1, X2, m2, d2, X, d, rfl, hrv, hrb⟩
          have BH25 := hide (BH24.out.keep kk25 (fun e => e))
          have BS25 := hide (BS24.out.keep kk25 (fun e => e))
          have K25 := hide (K24.out.trans0 kk25)
          have GV25 := hide (GV24.out.keep0 kk25)
          have SR25 := hide (SR24.out.keep kk25 (fun _ _ _ e => e))
          have BZ25 := hide (BZ24.out.keep kk25 (fun e => e))
          have RV25 := hide (hrv.mono (q := fun i => wg24.heap.size ≤ i ∧ i < wr25.heap.size) (fun i hi hp => ⟨hp, hi⟩))
          have RB25 := hide (hrb.mono (q := fun i => wg24.heap.size ≤ i ∧ i < wr25.heap.size) (fun i hi hp => ⟨hp, hi⟩))
          clear hrv hrb kk25
          simp only []
          refine hK.out _ _ (SO.out _ BH25.out BS25.out) (fun hHeld => ?_)
          clear hK K
          try simp only [Act.put, List.setIfInBounds_toArray, List.set_cons_zero, List.set_cons_succ]
          unfold hcells
          refine wpAnyH_take (i := 5) (v := ?_) (by simp only [List.getElem?_toArray, List.getElem?_cons_succ, List.getElem?_cons_zero]; rfl) (by kernel_rfl) (by kernel_rfl) (by kernel_rfl) (fun _ _ _ h => h) (Or.inl ⟨by rfl, ?_⟩) (by assumption) ?_
          rotate_left 1
          · (intro w hSw; (try dsimp only at hSw); go_simp; (try with_reducible rfl))
          try simp only [Act.put, List.setIfInBounds_toArray, List.set_cons_zero, List.set_cons_succ]
          refine wpAnyH_take (i := 6) (v := ?_) (by simp only [List.getElem?_toArray, List.getElem?_cons_succ, List.getElem?_cons_zero]; rfl) (by kernel_rfl) (by kernel_rfl) (by kernel_rfl) (fun _ _ _ h => h) (Or.inl ⟨by rfl, ?_⟩) (by assumption) ?_
          rotate_left 1
          · (intro w hSw; (try dsimp only at hSw); go_simp; (try with_reducible rfl))
          try simp only [Act.put, List.setIfInBounds_toArray, List.set_cons_zero, List.set_cons_succ]
          refine wpAnyH_take (i := 7) (v := ?_) (by simp only [List.getElem?_toArray, List.getElem?_cons_succ, List.getElem?_cons_zero]; rfl) (by kernel_rfl) (by kernel_rfl) (by kernel_rfl) (fun _ _ _ h => h) (Or.inl ⟨by rfl, ?_⟩) (by assumption) ?_
          rotate_left 1
          · (intro w hSw; (try dsimp only at hSw); go_simp; (try with_reducible rfl))
          try simp only [Act.put, List.setIfInBounds_toArray, List.set_cons_zero, List.set_cons_succ]
          refine wpAnyH_ready (rs := [9]) (by kernel_rfl) (by simp) ?_
          refine AllReadyH.cons (by simp only [List.getElem?_toArray, List.getElem?_cons_succ, List.getElem?_cons_zero]; rfl) (fun K hK => ?_) AllReadyH.nil
          refine step_stRow rfl rfl rfl rfl BZ25.out (by kernel_rfl) rfl (by simp [Value.oneCell']) ?_
          intro wf hbf hkf
          have hbh := BH25.out.keep hkf (fun e => (BH25.out.ne_ BZ25.out (by decide)) e)
          have hbs := BS25.out.keep hkf (fun e => (BS25.out.ne_ BZ25.out (by decide)) e)
          have HRVf := hide ((RV25.out.keep hkf (fun i _ hp e => by have h1 := hp.1; have h2 := hp.2; have h3 : i = wd.heap.size := e; have := BZ24.out.lt; omega)).mono (q := fun _ => True) (fun _ _ _ => trivial))
          have HRBf := hide ((RB25.out.keep hkf (fun i _ hp e => by have h1 := hp.1; have h2 := hp.2; have h3 : i = wd.heap.size := e; have := BZ24.out.lt; omega)).mono (q := fun _ => True) (fun _ _ _ => trivial))
          have HBf := hide hbf
          have HKf := hide (K25.out.trans hkf (fun i hi e => by have h3 : i = wd.heap.size := e; have := K0.out.size; simp only [World.size_alloc] at *; omega))
          refine hK.out _ _ (SO.out _ hbh hbs) (fun hHeld => ?_)
          clear hK K hkf hbf
          try simp only [Act.put, List.setIfInBounds_toArray, List.set_cons_zero, List.set_cons_succ]
          refine wpAnyH_done (by kernel_rfl) ?_ _
          intro K hK
          go_simp
          refine hK _ _ (NoPanic.normal ?_)
          clear hK K
          refine HK.out _ _ ?_
          rw [← hyy]
          exact HQ.out _ _ _ _ _ _ _ _ _  _ _ _ _ _ _ _ _ _ HKf.out HBf.out HRVf.out HRBf.out
end Go.Proofs.YtdmnflngafbobaaDoor
