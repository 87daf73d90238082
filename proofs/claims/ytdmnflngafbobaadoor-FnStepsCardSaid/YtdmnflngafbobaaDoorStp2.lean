/-
  The thin package's steps that set, delete and clear. Conditions: those that stand in each theorem.
-/
import Derived.Test.YtdmnflngafbobaaDoorGSt
import Derived.Test.YtdmnflngafbobaaDoorGDe
namespace Go.Proofs.YtdmnflngafbobaaDoor
open Go.RowKit
set_option linter.unusedVariables false
set_option linter.unusedSimpArgs false
set_option maxRecDepth 100000

set_option maxHeartbeats 3200000 in
theorem step0_walk {p : Nat → Prop} {hd : Hd} {g B n c : Nat} {A : Option Addr} {id pr : Int} {d : List Int} (w : World) (hP : RP w B g hd) (hx : hd.exts.length ≤ 1000000) (hR : Rd w p 1 (.slice A n c) n (B8 d)) (hn : n ≤ 2147483647) (hBw : B ≤ w.heap.size) (hee : ∀ w', Keep w w' (B ≤ ·) → HErrs w') :
    Calls Tryd.prog 82 #[.pointer (some ⟨g, 0, none⟩), .agg (scells 0 id A n c pr)] w fun e w' => e = .returned (.bool (setE hd id d).isSome) ∧ RP w' B g ((setE hd id d).getD hd) ∧ Keep w w' (KX w B g) := by
  have hl : d.length = n := by have := hR.len; rwa [B8_len] at this
  have HP := hide hP
  have HR := hide (hR.mono (q := (· < w.heap.size)) (fun k hk _ => hk))
  have HEE := hide hee
  have HL := hide hl
  have lg : g < w.heap.size := by
    obtain ⟨_, _, _, _, _, hB, _⟩ := hP
    exact hB.lt
  clear hP hR hee hl
  unfold scells
  go_enter Tryd.func82, Tryd.ntmps82
  go_upto_region 3 with fail
  generalize hwa : World.alloc w _ = wa
  have BX := hide (show Blk wa w.heap.size 76 (scells 0 id A n c pr) by subst hwa; exact Blk.new w _ _)
  have KA := hide (show Keep w wa Nul by subst hwa; exact (Keep.refl w Nul).alloc _)
  have hza : wa.heap.size = w.heap.size + 1 := by subst hwa; simp [World.size_alloc]
  generalize hv0 : Value.agg _ = v0
  clear hwa hv0
  have s1 := BX.out.cell 1 (v := .int .u8 id) rfl
  have s2 := BX.out.cell 2 (v := .slice A n c) rfl
  have hC := hide (clone_b wa.drew ((HR.out.keep0 KA.out).drew) (B8_one _) (by omega))
  refine wp_region_noPanic ?_
  refine region_last' (S := fun w' => w'.cell? ⟨w.heap.size, 1, none⟩ = some (.int .u8 id) ∧ w'.cell? ⟨w.heap.size, 2, none⟩ = some (.slice A n c)) (by kernel_rfl) (by kernel_rfl) (by simp only [List.dropLast_cons_cons, List.dropLast_singleton]; rfl) (by simp only [List.getLast?_cons_cons, List.getLast?_singleton]; rfl) (⟨s1, s2⟩) (fun hHeld => ?_)
  simp only [List.length_cons, List.length_nil, Nat.reduceAdd, Nat.zero_add]
  refine wpAnyH_take (i := 0) (v := ?_) (by simp only [List.getElem?_toArray, List.getElem?_cons_succ, List.getElem?_cons_zero]; rfl) (by kernel_rfl) (by kernel_rfl) (by kernel_rfl) (fun _ _ _ h => h) (Or.inl ⟨by rfl, ?_⟩) (by assumption) ?_
  rotate_left 1
  · (intro w hSw; (try dsimp only at hSw); go_simp; (try with_reducible rfl))
  try simp only [Act.put, List.setIfInBounds_toArray, List.set_cons_zero, List.set_cons_succ]
  refine wpAnyH_take (i := 1) (v := ?_) (by simp only [List.getElem?_toArray, List.getElem?_cons_succ, List.getElem?_cons_zero]; rfl) (by kernel_rfl) (by kernel_rfl) (by kernel_rfl) (fun _ _ _ h => h) (Or.inl ⟨by rfl, ?_⟩) (by assumption) ?_
  rotate_left 1
  · (intro w hSw; (try dsimp only at hSw); go_simp; (try with_reducible rfl))
  try simp only [Act.put, List.setIfInBounds_toArray, List.set_cons_zero, List.set_cons_succ]
  refine wpAnyH_take (i := 2) (v := ?_) (by simp only [List.getElem?_toArray, List.getElem?_cons_succ, List.getElem?_cons_zero]; rfl) (by kernel_rfl) (by kernel_rfl) (by kernel_rfl) (fun _ _ _ h => h) (Or.inl ⟨by rfl, ?_⟩) (by assumption) ?_
  rotate_left 1
  · (intro w hSw; (try dsimp only at hSw); go_simp; (try with_reducible rfl))
  try simp only [Act.put, List.setIfInBounds_toArray, List.set_cons_zero, List.set_cons_succ]
  refine wpAnyH_take (i := 3) (v := ?_) (by simp only [List.getElem?_toArray, List.getElem?_cons_succ, List.getElem?_cons_zero]; rfl) (by kernel_rfl) (by kernel_rfl) (by kernel_rfl) (fun _ _ _ h => h) (Or.inl ⟨by rfl, ?_⟩) (by assumption) ?_
  rotate_left 1
  · (intro w hSw; (try dsimp only at hSw); go_simp; (try with_reducible rfl))
  try simp only [Act.put, List.setIfInBounds_toArray, List.set_cons_zero, List.set_cons_succ]
  refine wpAnyH_take (i := 4) (v := ?_) (by simp only [List.getElem?_toArray, List.getElem?_cons_succ, List.getElem?_cons_zero]; rfl) (by kernel_rfl) (by kernel_rfl) (by kernel_rfl) (fun _ _ _ h => h) (Or.inl ⟨by rfl, ?_⟩) (by assumption) ?_
  rotate_left 1
  · (intro w hSw; (try dsimp only at hSw); go_simp; (try with_reducible rfl))
  try simp only [Act.put, List.setIfInBounds_toArray, List.set_cons_zero, List.set_cons_succ]
  refine wpAnyH_ready (rs := [5]) (by kernel_rfl) (by simp) ?_
  refine AllReadyH.cons (by simp only [List.getElem?_toArray, List.getElem?_cons_succ, List.getElem?_cons_zero]; rfl) (fun K hK => ?_) AllReadyH.nil
  go_simp
  go_at_call 65
  refine (hC.out).mono ?_
  rintro e w1 ⟨v1, rfl, o1, k1, -⟩
  have bx1 := BX.out.drew.keep k1 (fun e => e)
  obtain ⟨A1, c1, rfl⟩ := o1.rd.shape
  have K1 := hide (((KA.out).drew).trans0 k1)
  have O1 := hide o1
  have hz1 := k1.size
  clear k1 o1
  simp only []
  refine hK.out _ _ (⟨bx1.cell 1 rfl, bx1.cell 2 rfl⟩) (fun hHeld => ?_)
  clear hK K
  try simp only [Act.put, List.setIfInBounds_toArray, List.set_cons_zero, List.set_cons_succ]
  have hRc := hide ((O1.out.byt).mono (q := Byt w1 B) (fun k _ hk => hk.low (by have : wa.heap.size ≤ wa.drew.heap.size := Nat.le_refl _; omega)))
  have hSW := hide (set_walk (hd := hd) (id := id) (d := d) w1 (HP.out.keep K1.out) hx hRc.out hn (Nat.le_trans hBw K1.out.size) (HEE.out w1 (K1.out.nul (B ≤ ·))))
  refine wpAnyH_ready (rs := [6]) (by kernel_rfl) (by simp) ?_
  refine AllReadyH.cons (by simp only [List.getElem?_toArray, List.getElem?_cons_succ, List.getElem?_cons_zero]; rfl) (fun K hK => ?_) AllReadyH.nil
  go_simp
  go_at_call 107
  refine (hSW.out).mono ?_
  rintro e w2 ⟨k2, hcase⟩
  have bx2 := bx1.keep k2 (fun e => by
    rcases e with ⟨_, e | ⟨cur, fr, e⟩⟩
    · omega
    · have b := bx1
      unfold Blk at b
      rw [b] at e
      injection e with e
      injection e with _ e _
      exact absurd e (by decide))
  have K2 := hide ((K1.out.nul (KX w B g)).kx_trans (k2.mono (fun _ _ e => e)))
  clear k2
  rcases hcase with ⟨hd', hs', rfl, hrp⟩ | ⟨hs', ⟨te, ve, rfl⟩, hrp⟩
  · have HS := hide hs'
    have HRP := hide hrp
    clear hs' hrp
    simp only []
    refine hK.out _ _ (⟨bx2.cell 1 rfl, bx2.cell 2 rfl⟩) (fun hHeld => ?_)
    clear hK K
    try simp only [Act.put, List.setIfInBounds_toArray, List.set_cons_zero, List.set_cons_succ]
    refine wpAnyH_take (i := 7) (v := ?_) (by simp only [List.getElem?_toArray, List.getElem?_cons_succ, List.getElem?_cons_zero]; rfl) (by kernel_rfl) (by kernel_rfl) (by kernel_rfl) (fun _ _ _ h => h) (Or.inl ⟨by rfl, ?_⟩) (by assumption) ?_
    rotate_left 1
    · (intro w hSw; (try dsimp only at hSw); go_simp; (try with_reducible rfl))
    try simp only [Act.put, List.setIfInBounds_toArray, List.set_cons_zero, List.set_cons_succ]
    refine wpAnyH_done (by kernel_rfl) ?_ _
    intro K hK
    go_simp
    refine hK _ _ (NoPanic.normal ?_)
    clear hK K
    go_wp2_with fail
    (try go_ret)
    rw [HS.out]
    exact ⟨rfl, HRP.out, K2.out⟩
  · have HS := hide hs'
    have HRP := hide hrp
    clear hs' hrp
    simp only []
    refine hK.out _ _ (⟨bx2.cell 1 rfl, bx2.cell 2 rfl⟩) (fun hHeld => ?_)
    clear hK K
    try simp only [Act.put, List.setIfInBounds_toArray, List.set_cons_zero, List.set_cons_succ]
    refine wpAnyH_take (i := 7) (v := ?_) (by simp only [List.getElem?_toArray, List.getElem?_cons_succ, List.getElem?_cons_zero]; rfl) (by kernel_rfl) (by kernel_rfl) (by kernel_rfl) (fun _ _ _ h => h) (Or.inl ⟨by rfl, ?_⟩) (by assumption) ?_
    rotate_left 1
    · (intro w hSw; (try dsimp only at hSw); go_simp; (try with_reducible rfl))
    try simp only [Act.put, List.setIfInBounds_toArray, List.set_cons_zero, List.set_cons_succ]
    refine wpAnyH_done (by kernel_rfl) ?_ _
    intro K hK
    go_simp
    refine hK _ _ (NoPanic.normal ?_)
    clear hK K
    go_wp2_with fail
    (try go_ret)
    rw [HS.out]
    exact ⟨rfl, HRP.out, K2.out⟩

set_option maxHeartbeats 3200000 in
theorem step2_walk {hd : Hd} {g B n c : Nat} {A : Option Addr} {id pr : Int} (w : World) (hP : RP w B g hd) (hx : hd.exts.length ≤ 1000000) (hBw : B ≤ w.heap.size) (hee : ∀ w', Keep w w' (B ≤ ·) → DErrs w') :
    Calls Tryd.prog 82 #[.pointer (some ⟨g, 0, none⟩), .agg (scells 2 id A n c pr)] w fun e w' => e = .returned (.bool (delE hd id).isSome) ∧ RP w' B g ((delE hd id).getD hd) ∧ Keep w w' (KX w B g) := by
  have HP := hide hP
  have HEE := hide hee
  have lg : g < w.heap.size := by
    obtain ⟨_, _, _, _, _, hB, _⟩ := hP
    exact hB.lt
  clear hP hee
  unfold scells
  go_enter Tryd.func82, Tryd.ntmps82
  go_upto_region 7 with fail
  generalize hwa : World.alloc w _ = wa
  have BX := hide (show Blk wa w.heap.size 76 (scells 2 id A n c pr) by subst hwa; exact Blk.new w _ _)
  have KA := hide (show Keep w wa Nul by subst hwa; exact (Keep.refl w Nul).alloc _)
  have hza : wa.heap.size = w.heap.size + 1 := by subst hwa; simp [World.size_alloc]
  generalize hv0 : Value.agg _ = v0
  clear hwa hv0
  have s1 := BX.out.cell 1 (v := .int .u8 id) rfl
  have hD := hide (del_walk (hd := hd) (g := g) (id := id) wa (HP.out.keep KA.out) hx (Nat.le_trans hBw KA.out.size) (HEE.out wa (KA.out.nul (B ≤ ·))))
  go_wp2_with fail
  refine Calls.mono (show Calls _ _ #[.pointer (some ⟨g, 0, none⟩), .int .u8 id] _ _ from hD.out) ?_
  rintro e w2 ⟨k2, hcase⟩
  have K2 := hide ((KA.out.nul (KX w B g)).kx_trans (k2.mono (fun _ _ e => e)))
  clear k2
  rcases hcase with ⟨hd', hs', rfl, hrp⟩ | ⟨hs', ⟨te, ve, rfl⟩, hrp⟩
  · have HS := hide hs'
    have HRP := hide hrp
    clear hs' hrp
    go_wp2_with fail
    (try go_ret)
    rw [HS.out]
    exact ⟨rfl, HRP.out, K2.out⟩
  · have HS := hide hs'
    have HRP := hide hrp
    clear hs' hrp
    go_wp2_with fail
    (try go_ret)
    rw [HS.out]
    exact ⟨rfl, HRP.out, K2.out⟩

set_option maxHeartbeats 3200000 in
theorem step3_walk {hd : Hd} {g B n c : Nat} {A : Option Addr} {id pr : Int} (w : World) (hP : RP w B g hd) :
    Calls Tryd.prog 82 #[.pointer (some ⟨g, 0, none⟩), .agg (scells 3 id A n c pr)] w fun e w' => e = .returned (.bool true) ∧ RP w' B g { hd with ext := false, prof := 0, exts := [] } ∧ Keep w w' (KX w B g) := by
  have HP := hide hP
  have lg : g < w.heap.size := by
    obtain ⟨_, _, _, _, _, hB, _⟩ := hP
    exact hB.lt
  clear hP
  unfold scells
  go_enter Tryd.func82, Tryd.ntmps82
  go_upto_region 9 with fail
  generalize hwa : World.alloc w _ = wa
  have KA := hide (show Keep w wa Nul by subst hwa; exact (Keep.refl w Nul).alloc _)
  generalize hv0 : Value.agg _ = v0
  clear hwa hv0
  have hD := hide (clear_walk (hd := hd) (g := g) wa (HP.out.keep KA.out))
  go_wp2_with fail
  refine Calls.mono (show Calls _ _ #[.pointer (some ⟨g, 0, none⟩)] _ _ from hD.out) ?_
  rintro e w2 ⟨rfl, hrp, k2⟩
  have K2 := hide ((KA.out.nul (KX w B g)).kx_trans (k2.mono (fun _ _ e => e)))
  have HRP := hide hrp
  clear k2 hrp
  go_wp2_with fail
  (try go_ret)
  exact ⟨rfl, HRP.out, K2.out⟩

theorem stepE0 {s : St} (h : s.what = 0) (hd : Hd) : stepE hd s = setE hd s.id s.data := by unfold stepE; rw [h]; rfl
theorem stepE2 {s : St} (h : s.what = 2) (hd : Hd) : stepE hd s = delE hd s.id := by unfold stepE; rw [h]; rfl
theorem stepE3 {s : St} (h : s.what = 3) (hd : Hd) : stepE hd s = some { hd with ext := false, prof := 0, exts := [] } := by unfold stepE; rw [h]; rfl
end Go.Proofs.YtdmnflngafbobaaDoor
