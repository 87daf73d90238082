/-
  impl.FormatVLA. Conditions: those that stand in each theorem.
-/
import Derived.Test.YtdlnmkpojiofoaaDoorVl16
namespace Go.Proofs.YtdlnmkpojiofoaaDoor
open Go.RowKit
set_option linter.unusedVariables false
set_option linter.unusedSimpArgs false
set_option maxRecDepth 100000

theorem step_app {P : Program} {w : World} {ops : Array Oper} {o : Oper} {a : Act} {K : Act → World → Prop} {Q : Exit → Act → World → Prop} {E : Prop} {t tx e : TypeId} {z : Value} {sz bytes : Nat} (T : ET P t e z sz bytes) (hgd : o.guard = none) (s x : Operand)
    (ho : o.op = .call { callee := .builtin .append, args := #[s, x], argTypes := #[t, tx] })
    {B : Nat} {v : Value} {n : Nat} {xs : List Value} (hown : Own w B e sz v n xs) (hv : a.eval s = v) {y : Value} {m : Nat} {ys : List Value} (hs : Src P sz tx y m ys w) (hy : a.eval x = y)
    (h63 : n + m ≤ maxLen) (hbytes : (n + m) * bytes ≤ 140737488355328) (hB : B ≤ w.heap.size)
    (h : ∀ v' w', Own w' B e sz v' (n + m) (xs ++ ys) → Keep w w' (fun k => v.ownBlock = some k) → (v'.ownBlock = v.ownBlock ∨ v'.ownBlock = some w.heap.size) → w'.heap.size ≤ w.heap.size + 1 → Own w' B e sz v n xs → K (a.put o.dst v') w') :
    if Region.wanted o (yielded ops a.tmps) = true then Oper.wp P o a w K Q else E := by
  have hw : Region.wanted o (yielded ops a.tmps) = true := by simp [Region.wanted, hgd]
  rw [if_pos hw]
  obtain ⟨v', w', hr, h1, h2, h3, h4, h5⟩ := run_app' (P := P) T o.type hown hs h63 hbytes hB
  unfold Oper.wp execOp
  simp only [ho, resolve, invoke, builtin, Sem.run_bind, Sem.run_pure, Result.andThen_ok, List.map_toArray, List.map_cons, List.map_nil, hv, hy, hr]
  exact h v' w' h1 h2 h3 h4 h5

theorem src_one {P : Program} {tx e e' : TypeId} (hk : P.underlying tx = some (.slice e')) {w : World} {sz : Nat} {cs : Array Value} {g : Nat} (hg : g = w.heap.size) (hn : cs.size = sz) (h1 : ∀ u ∈ cs.toList, u.oneCell' = true) :
    Src P sz tx (.slice (some ⟨g, 0, none⟩) 1 1) 1 cs.toList (w.alloc (.cells cs e)) := by
  subst hg
  exact src_of_rd _ hk (Own.of_lit (e := e) (sz := sz) w cs 1 (by simp [maxLen]) (by omega)).rd h1


theorem etSL : ET Tryd.prog 67 72 (.agg #[.int .i64 0, .int .i64 0, .slice none 0 0, .int .i64 0, .int .i64 0, .int .i64 0]) 6 64 := ⟨Tryd.underlying67, by kernel_rfl, rfl, by decide⟩

set_option maxHeartbeats 6400000 in
theorem vfmt_walk {p : Nat → Prop} {P : Pv} {b o c : Nat} {ds : List Value} (w : World) (hP : P.Ok) (hL : LR w p P b o ds) (hc : P.L ≤ c) (hpl : ∀ i, p i → i < w.heap.size) :
    Calls Tryd.prog 13 #[.agg (P.vla b o c)] w fun e w' => ∃ out, e = .returned (.tuple #[out, .bool true]) ∧ Keep w w' Nul ∧ Rd w' (w.heap.size ≤ ·) 1 out P.len (B8 P.out) := by
  have HP := hide hP
  have hL16 := hP.L16
  have ht4 := hP.t4
  have HLR := hide hL
  have HPL := hide hpl
  clear hP hL hpl
  unfold Pv.vla
  go_enter Tryd.func13, Tryd.ntmps13
  go_upto_region 2 with fail
  generalize hwa : World.alloc (World.alloc w _) _ = wa
  obtain ⟨g1, hg1⟩ : ∃ g1, g1 = w.heap.size := ⟨_, rfl⟩
  obtain ⟨g4, hg4⟩ : ∃ g4, g4 = w.heap.size + 1 := ⟨_, rfl⟩
  have B1 := hide (show Blk wa g1 44 #[.int .i64 (P.st : Nat), .int .i64 (P.S : Nat), .slice (some ⟨b, o, none⟩) P.L c, .bool P.sized] by subst hwa hg1; exact (Blk.new w _ _).alloc _)
  have B4 := hide (show Blk wa g4 69 #[.int .i64 (P.st : Nat), .int .i64 (P.S : Nat), .slice none 0 0, .bool P.sized] by subst hwa hg4; exact Blk.new2 (by simp only [World.size_alloc]))
  have KA := hide (show Keep w wa Nul by subst hwa; exact ((Keep.refl w Nul).alloc _).alloc _)
  have hza : wa.heap.size = w.heap.size + 2 := by subst hwa; simp only [World.size_alloc]
  rw [← hg4, ← hg1]
  generalize hv0 : Value.agg _ = v0
  have hpl2 : ∀ i, p i → i < g1 := fun i hi => by have := HPL.out i hi; omega
  have HPL2 := hide hpl2
  obtain ⟨B, hBe⟩ : ∃ B, B = wa.heap.size := ⟨_, rfl⟩
  have m14 : g1 < g4 := by omega
  have m4 : g4 < B := by omega
  have x2 := B1.out.cell 2 (v := .slice (some ⟨b, o, none⟩) P.L c) rfl
  have hl1 := B1.out.lt
  have hBw : B ≤ wa.heap.size := by omega
  have mw : w.heap.size ≤ g1 := by omega
  have LRA := hide (HLR.out.keep KA.out (fun _ _ _ e => e))
  clear hwa hv0 hg1 hg4 hza hpl2 hBe
  go_wp2_with fail
  go_loopw [17] (fun s17 wr => ∃ (l : Nat) (A' : Option Addr) (c' : Nat) (dv : List Value), l ≤ P.L ∧ s17 = .int .i64 (l : Int) ∧ LO wr B 72 P.lc P.rs (.slice A' l c') l dv ∧ Blk wr g4 69 #[.int .i64 (P.st : Nat), .int .i64 (P.S : Nat), .slice A' l c', .bool P.sized] ∧ Keep wa wr (fun q => q = g4 ∨ B ≤ q)) (fun s17 _ => P.L - (intOf s17).toNat)
  case atStart => exact ⟨0, none, 0, [], by omega, rfl, LO.nil_ _ _ _ _ _, B4.out, Keep.refl _ _⟩
  case round =>
    obtain ⟨l, A', c', dv, hl, rfl, hlo, hb, hk⟩ := hrel
    have HLO := hide hlo
    have HB := hide hb
    have HK := hide hk
    have HL2 := hide (LRA.out.keep hk (fun i _ hi e => by have := HPL2.out i hi; rcases e with e | e <;> omega))
    have hBr : B ≤ _ := Nat.le_trans hBw hk.size
    clear hlo hb hk x2
    by_cases hlt : l < P.L
    · have kl : (l : Int) < (P.L : Int) := by omega
      have hds : ds[l]? = some (ds[l]'(by rw [LRA.out.dl]; exact hlt)) := List.getElem?_eq_getElem _
      have c0 := HL2.out.cell l _ hds 0 _ rfl
      have c1 := HL2.out.cell l _ hds 1 _ rfl
      have c2 := HL2.out.cell l _ hds 2 _ rfl
      have c3 := HL2.out.cell l _ hds 3 _ rfl
      have c4 := HL2.out.cell l _ hds 4 _ rfl
      have c5 := HL2.out.cell l _ hds 5 _ rfl
      have hrt := HL2.out.rate l _ hds
      obtain ⟨Ad, cd, hd⟩ := hrt.shape
      rw [hd] at c2 hrt
      have hlc : ∀ d, P.lc l d = [.int .i64 (l / P.K : Nat), .int .i64 (l % P.K : Nat), d, .int .i64 (P.W l : Nat), .int .i64 (P.H l : Nat), .int .i64 (P.F : Nat)] := fun _ => rfl
      have HLC := hide hlc
      rw [Nat.add_zero] at c0
      have hbb := HL2.out.blt
      generalize P.W l = W at *
      generalize P.H l = H at *
      generalize P.F = F at *
      generalize l / P.K = sI at *
      generalize l % P.K = kI at *
      have HRT := hide hrt
      clear hds hd hlc hrt
      go_upto_region 5 with fail
      generalize hw2 : World.alloc wr _ = w2
      obtain ⟨g6, hg6⟩ : ∃ g6, g6 = wr.heap.size := ⟨_, rfl⟩
      rw [← hg6]
      have B6 := hide (show Blk w2 g6 47 #[.int .i64 (sI : Int), .int .i64 (kI : Int), .slice Ad P.rs.length cd, .int .i64 (W : Int), .int .i64 (H : Int), .int .i64 (F : Int)] by subst hw2 hg6; exact Blk.new wr _ _)
      have k2 : Keep wr w2 Nul := by subst hw2; exact (Keep.refl wr Nul).alloc _
      have K2 := hide k2
      have HB2 := hide (HB.out.keep k2 (fun e => e))
      have hz2 : w2.heap.size = wr.heap.size + 1 := by subst hw2; exact World.size_alloc _ _
      have hl4 := HB.out.lt
      have n64 : g6 ≠ g4 := by omega
      have hg6w : wr.heap.size ≤ g6 := by omega
      have SO := hide (show ∀ w', Blk w' g6 47 #[.int .i64 (sI : Int), .int .i64 (kI : Int), .slice Ad P.rs.length cd, .int .i64 (W : Int), .int .i64 (H : Int), .int .i64 (F : Int)] → Blk w' g4 69 #[.int .i64 (P.st : Nat), .int .i64 (P.S : Nat), .slice A' l c', .bool P.sized] → (w'.cell? ⟨g6, 0, none⟩ = some (.int .i64 (sI : Int)) ∧ w'.cell? ⟨g6, 1, none⟩ = some (.int .i64 (kI : Int)) ∧ w'.cell? ⟨g6, 2, none⟩ = some (.slice Ad P.rs.length cd) ∧ w'.cell? ⟨g6, 3, none⟩ = some (.int .i64 (W : Int)) ∧ w'.cell? ⟨g6, 4, none⟩ = some (.int .i64 (H : Int)) ∧ w'.cell? ⟨g6, 5, none⟩ = some (.int .i64 (F : Int)) ∧ w'.cell? ⟨g4, 2, none⟩ = some (.slice A' l c')) from fun w' h6 h4 => ⟨h6.cell 0 rfl, h6.cell 1 rfl, h6.cell 2 rfl, h6.cell 3 rfl, h6.cell 4 rfl, h6.cell 5 rfl, h4.cell 2 rfl⟩)
      have hC := hide (clone_i w2.drew ((HRT.out.keep0 k2).drew) (fun u hu => by simp only [I64, List.mem_map] at hu; obtain ⟨r, _, rfl⟩ := hu; rfl) (by omega))
      have HNE := hide (show ¬ (Value.slice A' l c').ownBlock = some g4 from HLO.out.own.ne_ HB.out (by decide))
      have hg6l := B6.out.lt
      clear hw2 hg6 k2 c0 c1 c2 c3 c4 c5
      refine wp_region_noPanic ?_
      refine region_last2' (S := fun w' => w'.cell? ⟨g6, 0, none⟩ = some (.int .i64 (sI : Int)) ∧ w'.cell? ⟨g6, 1, none⟩ = some (.int .i64 (kI : Int)) ∧ w'.cell? ⟨g6, 2, none⟩ = some (.slice Ad P.rs.length cd) ∧ w'.cell? ⟨g6, 3, none⟩ = some (.int .i64 (W : Int)) ∧ w'.cell? ⟨g6, 4, none⟩ = some (.int .i64 (H : Int)) ∧ w'.cell? ⟨g6, 5, none⟩ = some (.int .i64 (F : Int)) ∧ w'.cell? ⟨g4, 2, none⟩ = some (.slice A' l c')) (by kernel_rfl) (by kernel_rfl) (by simp only [List.dropLast_cons_cons, List.dropLast_singleton]; rfl) (by simp only [List.getLast?_cons_cons, List.getLast?_singleton]; rfl) (SO.out _ B6.out.drew HB2.out.drew) (fun hHeld => ?_)
      simp only [List.length_cons, List.length_nil, Nat.reduceAdd, Nat.zero_add]
      refine wpAnyH_take (i := 0) (v := ?_) (by simp only [List.getElem?_toArray, List.getElem?_cons_succ, List.getElem?_cons_zero]; rfl) (by kernel_rfl) (by kernel_rfl) (by kernel_rfl) (fun _ _ _ h => h) (Or.inl ⟨by rfl, ?_⟩) (by assumption) ?_
      rotate_left 1
      · (intro w hSw; (try dsimp only at hSw); go_simp; (try with_reducible rfl))
      try simp only [Act.put, List.setIfInBounds_toArray, List.set_cons_zero, List.set_cons_succ]
      refine wpAnyH_take (i := 1) (v := ?_) (by simp only [List.getElem?_toArray, List.getElem?_cons_succ, List.getElem?_cons_zero]; rfl) (by kernel_rfl) (by kernel_rfl) (by kernel_rfl) (fun _ _ _ h => h) (Or.inl ⟨by rfl, ?_⟩) (by assumption) ?_
      rotate_left 1
      · (intro w hSw; (try dsimp only at hSw); go_simp; (try with_reducible rfl))
      try simp only [Act.put, List.setIfInBounds_toArray, List.set_cons_zero, List.set_cons_succ]
      refine wpAnyH_take (i := 2) (v := ?_) (by simp only [List.getElem?_toArray, List.getElem?_cons_succ, List.getElem?_cons_zero]; rfl) (by kernel_rfl) (by kernel_rfl) (by kernel_rfl) (fun _ _ _ h => h) (Or.inl ⟨by rfl, ?_⟩) (by assumption) ?_
      rotate_left 1
      · (intro w hSw; (try dsimp only at hSw); go_simp; (try with_reducible rfl))
      try simp only [Act.put, List.setIfInBounds_toArray, List.set_cons_zero, List.set_cons_succ]
      refine wpAnyH_take (i := 3) (v := ?_) (by simp only [List.getElem?_toArray, List.getElem?_cons_succ, List.getElem?_cons_zero]; rfl) (by kernel_rfl) (by kernel_rfl) (by kernel_rfl) (fun _ _ _ h => h) (Or.inl ⟨by rfl, ?_⟩) (by assumption) ?_
      rotate_left 1
      · (intro w hSw; (try dsimp only at hSw); go_simp; (try with_reducible rfl))
      try simp only [Act.put, List.setIfInBounds_toArray, List.set_cons_zero, List.set_cons_succ]
      refine wpAnyH_take (i := 4) (v := ?_) (by simp only [List.getElem?_toArray, List.getElem?_cons_succ, List.getElem?_cons_zero]; rfl) (by kernel_rfl) (by kernel_rfl) (by kernel_rfl) (fun _ _ _ h => h) (Or.inl ⟨by rfl, ?_⟩) (by assumption) ?_
      rotate_left 1
      · (intro w hSw; (try dsimp only at hSw); go_simp; (try with_reducible rfl))
      try simp only [Act.put, List.setIfInBounds_toArray, List.set_cons_zero, List.set_cons_succ]
      refine wpAnyH_take (i := 5) (v := ?_) (by simp only [List.getElem?_toArray, List.getElem?_cons_succ, List.getElem?_cons_zero]; rfl) (by kernel_rfl) (by kernel_rfl) (by kernel_rfl) (fun _ _ _ h => h) (Or.inl ⟨by rfl, ?_⟩) (by assumption) ?_
      rotate_left 1
      · (intro w hSw; (try dsimp only at hSw); go_simp; (try with_reducible rfl))
      try simp only [Act.put, List.setIfInBounds_toArray, List.set_cons_zero, List.set_cons_succ]
      refine wpAnyH_take (i := 6) (v := ?_) (by simp only [List.getElem?_toArray, List.getElem?_cons_succ, List.getElem?_cons_zero]; rfl) (by kernel_rfl) (by kernel_rfl) (by kernel_rfl) (fun _ _ _ h => h) (Or.inl ⟨by rfl, ?_⟩) (by assumption) ?_
      rotate_left 1
      · (intro w hSw; (try dsimp only at hSw); go_simp; (try with_reducible rfl))
      try simp only [Act.put, List.setIfInBounds_toArray, List.set_cons_zero, List.set_cons_succ]
      refine wpAnyH_take (i := 7) (v := ?_) (by simp only [List.getElem?_toArray, List.getElem?_cons_succ, List.getElem?_cons_zero]; rfl) (by kernel_rfl) (by kernel_rfl) (by kernel_rfl) (fun _ _ _ h => h) (Or.inl ⟨by rfl, ?_⟩) (by assumption) ?_
      rotate_left 1
      · (intro w hSw; (try dsimp only at hSw); go_simp; (try with_reducible rfl))
      try simp only [Act.put, List.setIfInBounds_toArray, List.set_cons_zero, List.set_cons_succ]
      refine wpAnyH_take (i := 9) (v := ?_) (by simp only [List.getElem?_toArray, List.getElem?_cons_succ, List.getElem?_cons_zero]; rfl) (by kernel_rfl) (by kernel_rfl) (by kernel_rfl) (fun _ _ _ h => h) (Or.inl ⟨by rfl, ?_⟩) (by assumption) ?_
      rotate_left 1
      · (intro w hSw; (try dsimp only at hSw); go_simp; (try with_reducible rfl))
      try simp only [Act.put, List.setIfInBounds_toArray, List.set_cons_zero, List.set_cons_succ]
      refine wpAnyH_take (i := 10) (v := ?_) (by simp only [List.getElem?_toArray, List.getElem?_cons_succ, List.getElem?_cons_zero]; rfl) (by kernel_rfl) (by kernel_rfl) (by kernel_rfl) (fun _ _ _ h => h) (Or.inl ⟨by rfl, ?_⟩) (by assumption) ?_
      rotate_left 1
      · (intro w hSw; (try dsimp only at hSw); go_simp; (try with_reducible rfl))
      try simp only [Act.put, List.setIfInBounds_toArray, List.set_cons_zero, List.set_cons_succ]
      refine wpAnyH_take (i := 11) (v := ?_) (by simp only [List.getElem?_toArray, List.getElem?_cons_succ, List.getElem?_cons_zero]; rfl) (by kernel_rfl) (by kernel_rfl) (by kernel_rfl) (fun _ _ _ h => h) (Or.inl ⟨by rfl, ?_⟩) (by assumption) ?_
      rotate_left 1
      · (intro w hSw; (try dsimp only at hSw); go_simp; (try with_reducible rfl))
      try simp only [Act.put, List.setIfInBounds_toArray, List.set_cons_zero, List.set_cons_succ]
      refine wpAnyH_take (i := 12) (v := ?_) (by simp only [List.getElem?_toArray, List.getElem?_cons_succ, List.getElem?_cons_zero]; rfl) (by kernel_rfl) (by kernel_rfl) (by kernel_rfl) (fun _ _ _ h => h) (Or.inl ⟨by rfl, ?_⟩) (by assumption) ?_
      rotate_left 1
      · (intro w hSw; (try dsimp only at hSw); go_simp; (try with_reducible rfl))
      try simp only [Act.put, List.setIfInBounds_toArray, List.set_cons_zero, List.set_cons_succ]
      refine wpAnyH_take (i := 13) (v := ?_) (by simp only [List.getElem?_toArray, List.getElem?_cons_succ, List.getElem?_cons_zero]; rfl) (by kernel_rfl) (by kernel_rfl) (by kernel_rfl) (fun _ _ _ h => h) (Or.inl ⟨by rfl, ?_⟩) (by assumption) ?_
      rotate_left 1
      · (intro w hSw; (try dsimp only at hSw); go_simp; (try with_reducible rfl))
      try simp only [Act.put, List.setIfInBounds_toArray, List.set_cons_zero, List.set_cons_succ]
      refine wpAnyH_take (i := 14) (v := ?_) (by simp only [List.getElem?_toArray, List.getElem?_cons_succ, List.getElem?_cons_zero]; rfl) (by kernel_rfl) (by kernel_rfl) (by kernel_rfl) (fun _ _ _ h => h) (Or.inl ⟨by rfl, ?_⟩) (by assumption) ?_
      rotate_left 1
      · (intro w hSw; (try dsimp only at hSw); go_simp; (try with_reducible rfl))
      try simp only [Act.put, List.setIfInBounds_toArray, List.set_cons_zero, List.set_cons_succ]
      refine wpAnyH_ready (rs := [8]) (by kernel_rfl) (by simp) ?_
      refine AllReadyH.cons (by simp only [List.getElem?_toArray, List.getElem?_cons_succ, List.getElem?_cons_zero]; rfl) (fun K hK => ?_) AllReadyH.nil
      go_simp
      go_at_call 24
      refine (hC.out).mono ?_
      rintro e w3 ⟨v3, rfl, o3, k3, -⟩
      have K3 := hide ((K2.out.drew).trans0 k3)
      have B63 := B6.out.drew.keep k3 (fun e => e)
      have B43 := HB2.out.drew.keep k3 (fun e => e)
      have O3 := hide o3
      obtain ⟨A3, c3, rfl⟩ := o3.rd.shape
      have hz3 := k3.size
      clear k3 o3
      simp only []
      refine hK.out _ _ (SO.out _ B63 B43) (fun hHeld => ?_)
      clear hK K
      try simp only [Act.put, List.setIfInBounds_toArray, List.set_cons_zero, List.set_cons_succ]
      refine wpAnyH_take (i := 15) (v := ?_) (by simp only [List.getElem?_toArray, List.getElem?_cons_succ, List.getElem?_cons_zero]; rfl) (by kernel_rfl) (by kernel_rfl) (by kernel_rfl) (fun _ _ _ h => h) (Or.inl ⟨by rfl, ?_⟩) (by assumption) ?_
      rotate_left 1
      · (intro w hSw; (try dsimp only at hSw); go_simp; (try with_reducible rfl))
      try simp only [Act.put, List.setIfInBounds_toArray, List.set_cons_zero, List.set_cons_succ]
      refine wpAnyH_ready (rs := [16]) (by kernel_rfl) (by simp) ?_
      refine AllReadyH.cons (by simp only [List.getElem?_toArray, List.getElem?_cons_succ, List.getElem?_cons_zero]; rfl) (fun K hK => ?_) AllReadyH.nil
      go_simp
      refine hK.out _ _ (SO.out _ (B63.alloc _) (B43.alloc _)) (fun hHeld => ?_)
      clear hK K
      try simp only [Act.put, List.setIfInBounds_toArray, List.set_cons_zero, List.set_cons_succ]
      refine wpAnyH_ready (rs := [17]) (by kernel_rfl) (by simp) ?_
      refine AllReadyH.cons (by simp only [List.getElem?_toArray, List.getElem?_cons_succ, List.getElem?_cons_zero]; rfl) (fun K hK => ?_) AllReadyH.nil
      refine step_app etSL (by rfl) _ _ (by rfl) ((HLO.out.keep0 K3.out).own.alloc (.cells #[.int .i64 (sI : Int), .int .i64 (kI : Int), .slice A3 P.rs.length c3, .int .i64 (W : Int), .int .i64 (H : Int), .int .i64 (F : Int)] 72)) (by rfl) (src_one (w := w3) (cs := #[.int .i64 (sI : Int), .int .i64 (kI : Int), .slice A3 P.rs.length c3, .int .i64 (W : Int), .int .i64 (H : Int), .int .i64 (F : Int)]) Tryd.underlying67 (by first | rfl | simp only [World.size_alloc]) rfl (by simp [Value.oneCell'])) (by rfl) (by simp only [maxLen]; omega) (by omega) (by simp only [World.size_alloc]; have h2 : w2.drew.heap.size = w2.heap.size := rfl; omega) ?_
      intro v5 w5 o5 k5 b5 z5 _
      have B45 := (B43.alloc (.cells #[.int .i64 (sI : Int), .int .i64 (kI : Int), .slice A3 P.rs.length c3, .int .i64 (W : Int), .int .i64 (H : Int), .int .i64 (F : Int)] 72)).keep k5 HNE.out
      have B65 := (B63.alloc (.cells #[.int .i64 (sI : Int), .int .i64 (kI : Int), .slice A3 P.rs.length c3, .int .i64 (W : Int), .int .i64 (H : Int), .int .i64 (F : Int)] 72)).keep k5 (fun e => by have := (HLO.out.own.at_ _ e).2.1; omega)
      have f10 := B45.free 2
      have g10 := B45.cell 2 (v := .slice A' l c') rfl
      have l5 := B45.lt
      obtain ⟨A5, c5, rfl⟩ := o5.rd.shape
      refine hK.out _ _ (SO.out _ B65 B45) (fun hHeld => ?_)
      clear hK K
      try simp only [Act.put, List.setIfInBounds_toArray, List.set_cons_zero, List.set_cons_succ]
      refine wpAnyH_take (i := 18) (v := ?_) (by simp only [List.getElem?_toArray, List.getElem?_cons_succ, List.getElem?_cons_zero]; rfl) (by kernel_rfl) (by kernel_rfl) (by kernel_rfl) (fun _ _ _ h => h) (Or.inl ⟨by rfl, ?_⟩) (by assumption) ?_
      rotate_left 1
      · (intro w hSw; (try dsimp only at hSw); go_simp; (try with_reducible rfl))
      try simp only [Act.put, List.setIfInBounds_toArray, List.set_cons_zero, List.set_cons_succ]
      refine wpAnyH_done (by kernel_rfl) ?_ _
      intro K hK
      go_simp
      refine hK _ _ (NoPanic.normal ?_)
      clear hK K
      have hwa := World.size_alloc w3 (.cells #[.int .i64 (sI : Int), .int .i64 (kI : Int), .slice A3 P.rs.length c3, .int .i64 (W : Int), .int .i64 (H : Int), .int .i64 (F : Int)] 72)
      have h22 : w2.drew.heap.size = w2.heap.size := rfl
      have hLO := HLO.out.more (d := .slice A3 P.rs.length c3) (wa := w3.alloc (.cells #[.int .i64 (sI : Int), .int .i64 (kI : Int), .slice A3 P.rs.length c3, .int .i64 (W : Int), .int .i64 (H : Int), .int .i64 (F : Int)] 72)) (K3.out.alloc _) k5 (by rw [HLC.out]; exact o5) (fun q hq => by
        rcases b5 with h | h
        · exact .inl (h ▸ hq)
        · rw [h] at hq
          injection hq with hq
          exact .inr (by omega))
        (((O3.out.alloc _).rdB).mono (fun q hq (h : w2.drew.heap.size ≤ q) => ⟨by omega, hq⟩)) hBr
      have kst : Keep w5 (w5.setCell ⟨g4, 2, none⟩ (.slice A5 (l + 1) c5)) (· = g4) := Keep.set1 _ _ _ _
      have HLO5 := hide (hLO.keep kst (fun q _ e => by have : q = g4 := e; omega))
      have HB5 := hide (B45.set_ 2 (.slice A5 (l + 1) c5))
      have HK5 := hide (((HK.out.trans0 (K3.out.alloc (.cells #[.int .i64 (sI : Int), .int .i64 (kI : Int), .slice A3 P.rs.length c3, .int .i64 (W : Int), .int .i64 (H : Int), .int .i64 (F : Int)] 72))).trans k5 (fun q _ e => .inr (HLO.out.own.at_ q e).1)).trans kst (fun _ _ e => .inl e))
      generalize hw6 : World.setCell w5 _ _ = w6 at *
      clear hw6 hLO kst o5 k5 b5 z5 B45 B65 f10 g10 hHeld hC
      refine (show ∀ a w, _ → _ by assumption) _ _ ?_
      go_wp2_with fail
      go_roundw
      case rel => exact ⟨l + 1, A5, c5, _, by omega, by go_num, HLO5.out, HB5.out, HK5.out⟩
      case measure => simp [intOf]; omega
    · obtain rfl : l = P.L := by omega
      obtain ⟨bb, cc, hve, hcc, hlr⟩ := HLO.out.lr (P := P) hL16.1
      injection hve with e1 _ e3
      subst e1 e3
      have y0 := HB.out.cell 0 (v := .int .i64 (P.st : Nat)) rfl
      have y1 := HB.out.cell 1 (v := .int .i64 (P.S : Nat)) rfl
      have y2 := HB.out.cell 2 (v := .slice (some ⟨bb, 0, none⟩) P.L c') rfl
      have y3 := HB.out.cell 3 (v := .bool P.sized) rfl
      have hl4 := HB.out.lt
      have hlr2 := hlr.mono (q := fun q => q < wr.heap.size) (fun q hq _ => hq)
      have hT := hide (bytes_ok (te := 69) (ve := .agg (P.vla bb 0 c')) (rv := .agg (P.vla bb 0 c')) (k := 62) (n := P.len) (xs := B8 P.out) (p := (wr.heap.size + 3 ≤ ·)) wr (fun k h => .inr h) (fun _ => by kernel_rfl) (fun _ => by kernel_rfl)
        (fun w1 hs hk => (vmar_walk w1 HP.out (hlr2.keep hk (fun _ _ _ e => e)) hcc (fun i (hi : i < wr.heap.size) => by omega)).mono fun e w' ⟨out, he, hk', hr⟩ => ⟨out, he, hk', hr.mono fun k _ h => by have h' : w1.heap.size ≤ k := h; show wr.heap.size + 3 ≤ k; omega⟩))
      have hKw : Keep w wr Nul := KA.out.trans HK.out (fun i hi e => by rcases e with e | e <;> omega)
      have HKW := hide hKw
      clear hlr hlr2 hKw
      go_wp2_with fail
      refine Calls.mono (show Calls _ _ #[.iface 69 (.agg (P.vla bb 0 c'))] _ _ from hT.out) ?_
      rintro e w7 ⟨out, rfl, hk7, hr7⟩
      have HK7 := hide (HKW.out.trans0 hk7)
      have HR7 := hide hr7
      have hzw := HKW.out.size
      clear hk7 hr7 hT y0 y1 y2 y3
      go_wp2_with fail
      go_ret2
      exact ⟨out, rfl, HK7.out, HR7.out.mono (fun q _ (h : wr.heap.size + 3 ≤ q) => by show w.heap.size ≤ q; omega)⟩
end Go.Proofs.YtdlnmkpojiofoaaDoor
