/-
  VLA.preprocessForMashaling. Conditions: those that stand in each theorem.
-/
import Derived.Test.YtdlnmkpojiofoaaDoorVl4
import Derived.Test.YtdlnmkpojiofoaaDoorLast2
import Derived.Deep.DeepCutAuto
import Derived.Deep.QuietTactic
import Derived.BigQuiet
namespace Go.Proofs.YtdlnmkpojiofoaaDoor
open Go.RowKit
set_option linter.unusedVariables false
set_option linter.unusedSimpArgs false
set_option maxRecDepth 100000

def inL (n : Nat) : List Int := List.replicate n (-1) ++ List.replicate (16 - n) 0
theorem inL_len {n : Nat} (h : n ≤ 16) : (inL n).length = 16 := by simp [inL]; omega
theorem inL_all : ((List.range 16).all fun n => (inL (n + 1) == (inL n).set n (-1)) && (inL n)[n]? == some 0) = true := by decide +kernel
theorem inL_next {n : Nat} (h : n < 16) : inL (n + 1) = (inL n).set n (-1) ∧ (inL n)[n]? = some 0 := by
  have h1 := inL_all
  rw [List.all_eq_true] at h1
  have h2 := h1 n (List.mem_range.2 h)
  simp only [Bool.and_eq_true, beq_iff_eq] at h2
  exact h2

theorem orK (k : Nat) (hk : k < 4) : bits .or .u8 (2 ^ k - 1) (IntKind.u8.wrap (2 ^ k)) = 2 ^ (k + 1) - 1 := by
  match k, hk with
  | 0, _ => decide
  | 1, _ => decide
  | 2, _ => decide
  | 3, _ => decide

set_option maxHeartbeats 3200000 in
theorem pre_walk {p : Nat → Prop} {P : Pv} {b o c g : Nat} {T : TypeId} {ds : List Value} (w : World) (hP : P.Ok) (hL : LR w p P b o ds) (hg : Blk w g T (ctxV (List.replicate 4 0) (List.replicate 16 0) 0 0)) (hpg : ∀ i, i < w.heap.size → p i → ¬ i = g) (hc : P.L ≤ c) :
    Calls Tryd.prog 68 #[.agg (P.vla b o c), .pointer (some ⟨g, 0, none⟩)] w fun e w' => e = .returned .nilIface ∧ Blk w' g T (ctxV (mbL P.K P.L) (ixL P.K P.L) 0 0) ∧ Keep w w' (· = g) := by
  have HP := hide hP
  have hL16 := hP.L16
  have HG := hide hg
  have hgl := hg.lt
  have HLR := hide hL
  have HPG := hide hpg
  clear hL hg hP hpg
  unfold Pv.vla
  go_enter Tryd.func68, Tryd.ntmps68
  go_upto_region 1 with fail
  generalize hwa : World.alloc w _ = wa
  have BX := hide (show Blk wa w.heap.size 69 (P.vla b o c) by subst hwa; exact Blk.new w _ _)
  have KA := hide (show Keep w wa Nul by subst hwa; exact (Keep.refl w Nul).alloc _)
  have GA := hide (HG.out.keep KA.out (fun e => e))
  generalize hv0 : Value.agg _ = v0
  clear hwa hv0
  have hng : w.heap.size ≠ g := by omega
  obtain ⟨g2, hg2⟩ : ∃ g2, g2 = w.heap.size := ⟨_, rfl⟩
  rw [← hg2] at BX hng ⊢
  have HG2 := hide hg2
  clear hg2
  go_wp2_with fail
  go_loopw [9] (fun s9 wr => ∃ i : Nat, i ≤ 4 ∧ s9 = .int .i64 (i : Int) ∧ Blk wr g T (ctxV (List.replicate 4 0) (inL (4 * i)) 0 0) ∧ Keep wa wr (· = g)) (fun s9 _ => 4 - (intOf s9).toNat)
  case atStart => exact ⟨0, by omega, rfl, GA.out, Keep.refl _ _⟩
  case round =>
    obtain ⟨i, hi, rfl, hb, hk⟩ := hrel
    have HB := hide hb
    have HK := hide hk
    clear hb hk
    by_cases hlt : i < 4
    · have kl : (i : Int) < 4 := by omega
      go_wp2_with fail
      go_loopw [12] (fun s12 wq => ∃ j : Nat, j ≤ 4 ∧ s12 = .int .i64 (j : Int) ∧ Blk wq g T (ctxV (List.replicate 4 0) (inL (4 * i + j)) 0 0) ∧ Keep wa wq (· = g)) (fun s12 _ => 4 - (intOf s12).toNat)
      case atStart => exact ⟨0, by omega, rfl, HB.out, HK.out⟩
      case round =>
        obtain ⟨j, hj, rfl, hb, hk⟩ := hrel
        have HB2 := hide hb
        have HK2 := hide hk
        have hfr := fun z => hb.free z
        have hbl := hb.lt
        clear hb hk
        by_cases hlt2 : j < 4
        · have kl2 : (j : Int) < 4 := by omega
          obtain ⟨n1, n2⟩ := inL_next (n := 4 * i + j) (by omega)
          have hcell := HB2.out.cell (4 + (4 * i + j)) (ctx_ix (by simp) (inL_len (by omega)) n2)
          have e1 : 4 + (4 * i + j) = 4 + i * 4 + j := by omega
          have hnew := (HB2.out.set_ (4 + (4 * i + j)) (.int .i64 (-1)))
          rw [ctx_six (by simp) (inL_len (by omega)) (by omega), ← n1] at hnew
          rw [e1] at hcell hnew
          have HN := hide hnew
          clear hnew e1 n1 n2
          go_wp2_with fail
          go_roundw
          case rel => exact ⟨j + 1, by omega, by go_num, HN.out, HK2.out.setg _ (fun _ => rfl) _⟩
          case measure => simp [intOf]; omega
        · obtain rfl : j = 4 := by omega
          go_wp2_with fail
          go_roundw
          case rel => exact ⟨i + 1, by omega, by go_num, HB2.out, HK2.out⟩
          case measure => simp [intOf]; omega
    · obtain rfl : i = 4 := by omega
      have BX1 := hide (BX.out.keep HK.out (fun e => hng e))
      have x2 := BX1.out.cell 2 (v := .slice (some ⟨b, o, none⟩) P.L c) rfl
      have hgl2 := BX1.out.lt
      go_wp2_with fail
      go_loopw [27] (fun s27 wq => ∃ l : Nat, l ≤ P.L ∧ s27 = .int .i64 (l : Int) ∧ Blk wq g T (ctxV (mbL P.K l) (ixL P.K l) 0 0) ∧ Keep wa wq (· = g)) (fun s27 _ => P.L - (intOf s27).toNat)
      case atStart => exact ⟨0, by omega, rfl, by rw [(mbL_zero P.K).1, (mbL_zero P.K).2]; exact HB.out, HK.out⟩
      case round =>
        obtain ⟨l, hl, rfl, hb, hk⟩ := hrel
        have HB3 := hide hb
        have HK3 := hide hk
        have BX2 := hide (BX.out.keep hk (fun e => hng e))
        have y2 := BX2.out.cell 2 (v := .slice (some ⟨b, o, none⟩) P.L c) rfl
        have y1 := BX2.out.cell 1 (v := .int .i64 (P.S : Nat)) rfl
        have hfr := fun z => hb.free z
        have hbl := hb.lt
        have hl2 := BX2.out.lt
        clear hb hk x2
        by_cases hlt : l < P.L
        · have hds : ds[l]? = some (ds[l]'(by rw [HLR.out.dl]; exact hlt)) := List.getElem?_eq_getElem _
          have hLq : LR _ p P b o ds := (HLR.out.keep KA.out (fun _ _ _ e => e)).keep HK3.out (fun i hi hpi e => by
            by_cases hiw : i < w.heap.size
            · exact HPG.out i hiw hpi e
            · have : i = g := e; omega)
          have c0 := hLq.cell l _ hds 0 _ rfl
          have c1 := hLq.cell l _ hds 1 _ rfl
          have c2 := hLq.cell l _ hds 2 _ rfl
          obtain ⟨Ad, cd, hd⟩ := (hLq.rate l _ hds).shape
          rw [hd] at c2
          have hbb := hLq.blt
          obtain ⟨m1, m2, m3, m4⟩ := mbL_next P.K (by have := HP.out.k4; omega) l (by omega) (by have := HP.out.k1; omega) (by have := div_lt HP.out hlt; have := HP.out.s4; omega)
          have hsS := div_lt HP.out hlt
          have hkK := mod_lt HP.out l
          have hs4 := HP.out.s4
          have hk4 := HP.out.k4
          have ht1 := HP.out.t1
          have ht4 := HP.out.t4
          generalize l / P.K = s at *
          generalize l % P.K = k at *
          rw [Nat.add_zero] at c0
          have hm := HB3.out.cell s (ctx_mb (mbL_len _ _) m2)
          have hx := HB3.out.cell (4 + (s * 4 + k)) (ctx_ix (mbL_len _ _) (ixL_len _ _) m4)
          rw [show 4 + (s * 4 + k) = 4 + s * 4 + k by omega] at hx
          have ks : (s : Int) < 4 := by omega
          have ks2 : ¬ (P.S : Int) ≤ (s : Int) := by omega
          have kk : (k : Int) < 4 := by omega
          have kk2 : ¬ (4 : Int) ≤ (k : Int) := by omega
          have kl : (l : Int) < (P.L : Int) := by omega
          have kt : ((P.rs.length : Int) == 0) = false := beq_eq_false_iff_ne.2 (by omega)
          have kt2 : ¬ (4 : Int) < (P.rs.length : Int) := by omega
          have M1 := hide m1
          have M3 := hide m3
          have M4 := hide m4
          have HDS := hide hds
          have HLQ := hide hLq
          clear m1 m2 m3 m4 hds hLq hd
          go_upto_region 14 with fail
          go_quiet (fail)
          go_upto_region 20 with fail
          obtain ⟨u, hu⟩ : ∃ u : Int, u = 2 ^ k - 1 := ⟨_, rfl⟩
          rw [← hu] at hm
          have qsh : (1 : Int) * 2 ^ k = 2 ^ k := Int.one_mul _
          refine wp_region_noPanic ?_
          refine region_last2' (S := fun w' => w'.cell? ⟨b, o + l * 6, none⟩ = some (.int .i64 (s : Int)) ∧ w'.cell? ⟨b, o + l * 6 + 1, none⟩ = some (.int .i64 (k : Int)) ∧ w'.cell? ⟨g, s, none⟩ = some (.int .u8 u)) (by kernel_rfl) (by kernel_rfl) (by simp only [List.dropLast_cons_cons, List.dropLast_singleton]; rfl) (by simp only [List.getLast?_cons_cons, List.getLast?_singleton]; rfl) (⟨c0, c1, hm⟩) (fun hHeld => ?_)
          simp only [List.length_cons, List.length_nil, Nat.reduceAdd, Nat.zero_add]
          refine wpAnyH_take (i := 0) (v := ?_) (by simp only [List.getElem?_toArray, List.getElem?_cons_succ, List.getElem?_cons_zero]; rfl) (by kernel_rfl) (by kernel_rfl) (by kernel_rfl) (fun _ _ _ h => h) (Or.inl ⟨by rfl, ?_⟩) (by assumption) ?_
          rotate_left 1
          · (intro w hSw; (try dsimp only at hSw); go_simp; (try with_reducible rfl))
          try simp only [Act.put, List.setIfInBounds_toArray, List.set_cons_zero, List.set_cons_succ]
          refine wpAnyH_take (i := 1) (v := ?_) (by simp only [List.getElem?_toArray, List.getElem?_cons_succ, List.getElem?_cons_zero]; rfl) (by kernel_rfl) (by kernel_rfl) (by kernel_rfl) (fun _ _ _ h => h) (Or.inl ⟨by rfl, ?_⟩) (by assumption) ?_
          rotate_left 1
          · (intro w hSw; (try dsimp only at hSw); go_simp; (try with_reducible rfl))
          try simp only [Act.put, List.setIfInBounds_toArray, List.set_cons_zero, List.set_cons_succ]
          refine wpAnyH_take (i := 2) (v := ?_) (by simp only [List.getElem?_toArray, List.getElem?_cons_succ, List.getElem?_cons_zero]; rfl) (by kernel_rfl) (by kernel_rfl) (by kernel_rfl) (fun _ _ _ h => h) (Or.inl ⟨by rfl, ?_⟩) (by assumption) ?_
          rotate_left 1
          · (intro w hSw; (try dsimp only at hSw); go_simp; (try with_reducible rfl))
          try simp only [Act.put, List.setIfInBounds_toArray, List.set_cons_zero, List.set_cons_succ]
          refine wpAnyH_take (i := 3) (v := ?_) (by simp only [List.getElem?_toArray, List.getElem?_cons_succ, List.getElem?_cons_zero]; rfl) (by kernel_rfl) (by kernel_rfl) (by kernel_rfl) (fun _ _ _ h => h) (Or.inl ⟨by rfl, ?_⟩) (by assumption) ?_
          rotate_left 1
          · (intro w hSw; (try dsimp only at hSw); go_simp; (try with_reducible rfl))
          try simp only [Act.put, List.setIfInBounds_toArray, List.set_cons_zero, List.set_cons_succ]
          refine wpAnyH_take (i := 4) (v := ?_) (by simp only [List.getElem?_toArray, List.getElem?_cons_succ, List.getElem?_cons_zero]; rfl) (by kernel_rfl) (by kernel_rfl) (by kernel_rfl) (fun _ _ _ h => h) (Or.inl ⟨by rfl, ?_⟩) (by assumption) ?_
          rotate_left 1
          · (intro w hSw; (try dsimp only at hSw); go_simp; (try with_reducible rfl))
          try simp only [Act.put, List.setIfInBounds_toArray, List.set_cons_zero, List.set_cons_succ]
          refine wpAnyH_take (i := 5) (v := ?_) (by simp only [List.getElem?_toArray, List.getElem?_cons_succ, List.getElem?_cons_zero]; rfl) (by kernel_rfl) (by kernel_rfl) (by kernel_rfl) (fun _ _ _ h => h) (Or.inl ⟨by rfl, ?_⟩) (by assumption) ?_
          rotate_left 1
          · (intro w hSw; (try dsimp only at hSw); go_simp; (try with_reducible rfl))
          try simp only [Act.put, List.setIfInBounds_toArray, List.set_cons_zero, List.set_cons_succ]
          refine wpAnyH_take (i := 6) (v := ?_) (by simp only [List.getElem?_toArray, List.getElem?_cons_succ, List.getElem?_cons_zero]; rfl) (by kernel_rfl) (by kernel_rfl) (by kernel_rfl) (fun _ _ _ h => h) (Or.inl ⟨by rfl, ?_⟩) (by assumption) ?_
          rotate_left 1
          · (intro w hSw; (try dsimp only at hSw); go_simp; (try with_reducible rfl))
          try simp only [Act.put, List.setIfInBounds_toArray, List.set_cons_zero, List.set_cons_succ]
          refine wpAnyH_take (i := 7) (v := ?_) (by simp only [List.getElem?_toArray, List.getElem?_cons_succ, List.getElem?_cons_zero]; rfl) (by kernel_rfl) (by kernel_rfl) (by kernel_rfl) (fun _ _ _ h => h) (Or.inl ⟨by rfl, ?_⟩) (by assumption) ?_
          rotate_left 1
          · (intro w hSw; (try dsimp only at hSw); go_simp; (try with_reducible rfl))
          try simp only [Act.put, List.setIfInBounds_toArray, List.set_cons_zero, List.set_cons_succ]
          refine wpAnyH_take (i := 8) (v := ?_) (by simp only [List.getElem?_toArray, List.getElem?_cons_succ, List.getElem?_cons_zero]; rfl) (by kernel_rfl) (by kernel_rfl) (by kernel_rfl) (fun _ _ _ h => h) (Or.inl ⟨by rfl, ?_⟩) (by assumption) ?_
          rotate_left 1
          · (intro w hSw; (try dsimp only at hSw); go_simp; (try with_reducible rfl))
          try simp only [Act.put, List.setIfInBounds_toArray, List.set_cons_zero, List.set_cons_succ]
          refine wpAnyH_take (i := 9) (v := ?_) (by simp only [List.getElem?_toArray, List.getElem?_cons_succ, List.getElem?_cons_zero]; rfl) (by kernel_rfl) (by kernel_rfl) (by kernel_rfl) (fun _ _ _ h => h) (Or.inl ⟨by rfl, ?_⟩) (by assumption) ?_
          rotate_left 1
          · (intro w hSw; (try dsimp only at hSw); go_simp; (try with_reducible rfl))
          try simp only [Act.put, List.setIfInBounds_toArray, List.set_cons_zero, List.set_cons_succ]
          refine wpAnyH_take (i := 10) (v := ?_) (by simp only [List.getElem?_toArray, List.getElem?_cons_succ, List.getElem?_cons_zero]; rfl) (by kernel_rfl) (by kernel_rfl) (by kernel_rfl) (fun _ _ _ h => h) (Or.inl ⟨by rfl, ?_⟩) (by assumption) ?_
          rotate_left 1
          · (intro w hSw; (try dsimp only at hSw); go_simp; (try with_reducible rfl))
          try simp only [Act.put, List.setIfInBounds_toArray, List.set_cons_zero, List.set_cons_succ]
          refine wpAnyH_take (i := 11) (v := ?_) (by simp only [List.getElem?_toArray, List.getElem?_cons_succ, List.getElem?_cons_zero]; rfl) (by kernel_rfl) (by kernel_rfl) (by kernel_rfl) (fun _ _ _ h => h) (Or.inl ⟨by rfl, ?_⟩) (by assumption) ?_
          rotate_left 1
          · (intro w hSw; (try dsimp only at hSw); go_simp; (try with_reducible rfl))
          try simp only [Act.put, List.setIfInBounds_toArray, List.set_cons_zero, List.set_cons_succ]
          refine wpAnyH_take (i := 12) (v := ?_) (by simp only [List.getElem?_toArray, List.getElem?_cons_succ, List.getElem?_cons_zero]; rfl) (by kernel_rfl) (by kernel_rfl) (by kernel_rfl) (fun _ _ _ h => h) (Or.inl ⟨by rfl, ?_⟩) (by assumption) ?_
          rotate_left 1
          · (intro w hSw; (try dsimp only at hSw); go_simp; (try with_reducible rfl))
          try simp only [Act.put, List.setIfInBounds_toArray, List.set_cons_zero, List.set_cons_succ]
          refine wpAnyH_take (i := 13) (v := ?_) (by simp only [List.getElem?_toArray, List.getElem?_cons_succ, List.getElem?_cons_zero]; rfl) (by kernel_rfl) (by kernel_rfl) (by kernel_rfl) (fun _ _ _ h => h) (Or.inl ⟨by rfl, ?_⟩) (by assumption) ?_
          rotate_left 1
          · (intro w hSw; (try dsimp only at hSw); go_simp; (try with_reducible rfl))
          try simp only [Act.put, List.setIfInBounds_toArray, List.set_cons_zero, List.set_cons_succ]
          refine wpAnyH_take (i := 14) (v := ?_) (by simp only [List.getElem?_toArray, List.getElem?_cons_succ, List.getElem?_cons_zero]; rfl) (by kernel_rfl) (by kernel_rfl) (by kernel_rfl) (fun _ _ _ h => h) (Or.inl ⟨by rfl, ?_⟩) (by assumption) ?_
          rotate_left 1
          · (intro w hSw; (try dsimp only at hSw); go_simp; (try with_reducible rfl))
          try simp only [Act.put, List.setIfInBounds_toArray, List.set_cons_zero, List.set_cons_succ]
          refine wpAnyH_take (i := 15) (v := ?_) (by simp only [List.getElem?_toArray, List.getElem?_cons_succ, List.getElem?_cons_zero]; rfl) (by kernel_rfl) (by kernel_rfl) (by kernel_rfl) (fun _ _ _ h => h) (Or.inl ⟨by rfl, ?_⟩) (by assumption) ?_
          rotate_left 1
          · (intro w hSw; (try dsimp only at hSw); go_simp; (try with_reducible rfl))
          try simp only [Act.put, List.setIfInBounds_toArray, List.set_cons_zero, List.set_cons_succ]
          refine wpAnyH_take (i := 16) (v := ?_) (by simp only [List.getElem?_toArray, List.getElem?_cons_succ, List.getElem?_cons_zero]; rfl) (by kernel_rfl) (by kernel_rfl) (by kernel_rfl) (fun _ _ _ h => h) (Or.inl ⟨by rfl, ?_⟩) (by assumption) ?_
          rotate_left 1
          · (intro w hSw; (try dsimp only at hSw); go_simp; (try with_reducible rfl))
          try simp only [Act.put, List.setIfInBounds_toArray, List.set_cons_zero, List.set_cons_succ]
          refine wpAnyH_take (i := 17) (v := ?_) (by simp only [List.getElem?_toArray, List.getElem?_cons_succ, List.getElem?_cons_zero]; rfl) (by kernel_rfl) (by kernel_rfl) (by kernel_rfl) (fun _ _ _ h => h) (Or.inl ⟨by rfl, ?_⟩) (by assumption) ?_
          rotate_left 1
          · (intro w hSw; (try dsimp only at hSw); go_simp; (try with_reducible rfl))
          try simp only [Act.put, List.setIfInBounds_toArray, List.set_cons_zero, List.set_cons_succ]
          refine wpAnyH_done (by kernel_rfl) ?_ _
          intro K hK
          go_simp
          refine hK _ _ (NoPanic.normal ?_)
          clear hK K
          rw [hu, orK k (by omega)] at *
          generalize hw20 : World.setCell _ _ _ = w20
          have k20 : Keep wr w20 (· = g) := by subst hw20; exact ((Keep.refl wr (· = g)).drewN _).setg s (fun _ => rfl) _
          have hb20 : Blk w20 g T (ctxV ((mbL P.K l).set s (2 ^ (k + 1) - 1)) (ixL P.K l) 0 0) := by subst hw20; rw [← ctx_smb (mbL_len _ _) (by omega)]; exact (HB3.out.keep ((Keep.refl wr Nul).drewN _) (fun e => e)).set_ s _
          rw [← M1.out] at hb20
          have HB20 := hide hb20
          have K20 := hide k20
          have hpw : ∀ i, i < wr.heap.size → p i → ¬ i = g := fun i hi hpi e => by
            by_cases hiw : i < w.heap.size
            · exact HPG.out i hiw hpi e
            · have : i = g := e; omega
          have hbg : ¬ b = g := hpw b hbb HLQ.out.pb
          have d0 := k20.cell (a := ⟨b, o + l * 6, none⟩) hbg c0
          have d1 := k20.cell (a := ⟨b, o + l * 6 + 1, none⟩) hbg c1
          have hx2 := hb20.cell (4 + (s * 4 + k)) (ctx_ix (mbL_len _ _) (ixL_len _ _) M4.out)
          rw [show 4 + (s * 4 + k) = 4 + s * 4 + k by omega] at hx2
          have hfr2 := fun z => hb20.free z
          have hbl2 := hb20.lt
          have hbb2 : b < w20.heap.size := Nat.lt_of_lt_of_le hbb k20.size
          clear hb20 k20 hw20 hx hm c0 c1 c2 hfr hpw hbg hHeld y1 y2
          refine (show ∀ a w, _ → _ by assumption) _ _ ?_
          go_upto_region 21 with fail
          go_quiet (fail)
          have e11 : ((-1 : Int) != -1) = false := by decide
          go_upto_region 23 with fail
          refine wp_region_noPanic ?_
          refine region_last2' (S := fun w' => w'.cell? ⟨b, o + l * 6, none⟩ = some (.int .i64 (s : Int)) ∧ w'.cell? ⟨b, o + l * 6 + 1, none⟩ = some (.int .i64 (k : Int))) (by kernel_rfl) (by kernel_rfl) (by simp only [List.dropLast_cons_cons, List.dropLast_singleton]; rfl) (by simp only [List.getLast?_cons_cons, List.getLast?_singleton]; rfl) (⟨d0, d1⟩) (fun hHeld => ?_)
          simp only [List.length_cons, List.length_nil, Nat.reduceAdd, Nat.zero_add]
          refine wpAnyH_take (i := 0) (v := ?_) (by simp only [List.getElem?_toArray, List.getElem?_cons_succ, List.getElem?_cons_zero]; rfl) (by kernel_rfl) (by kernel_rfl) (by kernel_rfl) (fun _ _ _ h => h) (Or.inl ⟨by rfl, ?_⟩) (by assumption) ?_
          rotate_left 1
          · (intro w hSw; (try dsimp only at hSw); go_simp; (try with_reducible rfl))
          try simp only [Act.put, List.setIfInBounds_toArray, List.set_cons_zero, List.set_cons_succ]
          refine wpAnyH_take (i := 1) (v := ?_) (by simp only [List.getElem?_toArray, List.getElem?_cons_succ, List.getElem?_cons_zero]; rfl) (by kernel_rfl) (by kernel_rfl) (by kernel_rfl) (fun _ _ _ h => h) (Or.inl ⟨by rfl, ?_⟩) (by assumption) ?_
          rotate_left 1
          · (intro w hSw; (try dsimp only at hSw); go_simp; (try with_reducible rfl))
          try simp only [Act.put, List.setIfInBounds_toArray, List.set_cons_zero, List.set_cons_succ]
          refine wpAnyH_take (i := 2) (v := ?_) (by simp only [List.getElem?_toArray, List.getElem?_cons_succ, List.getElem?_cons_zero]; rfl) (by kernel_rfl) (by kernel_rfl) (by kernel_rfl) (fun _ _ _ h => h) (Or.inl ⟨by rfl, ?_⟩) (by assumption) ?_
          rotate_left 1
          · (intro w hSw; (try dsimp only at hSw); go_simp; (try with_reducible rfl))
          try simp only [Act.put, List.setIfInBounds_toArray, List.set_cons_zero, List.set_cons_succ]
          refine wpAnyH_take (i := 3) (v := ?_) (by simp only [List.getElem?_toArray, List.getElem?_cons_succ, List.getElem?_cons_zero]; rfl) (by kernel_rfl) (by kernel_rfl) (by kernel_rfl) (fun _ _ _ h => h) (Or.inl ⟨by rfl, ?_⟩) (by assumption) ?_
          rotate_left 1
          · (intro w hSw; (try dsimp only at hSw); go_simp; (try with_reducible rfl))
          try simp only [Act.put, List.setIfInBounds_toArray, List.set_cons_zero, List.set_cons_succ]
          refine wpAnyH_take (i := 4) (v := ?_) (by simp only [List.getElem?_toArray, List.getElem?_cons_succ, List.getElem?_cons_zero]; rfl) (by kernel_rfl) (by kernel_rfl) (by kernel_rfl) (fun _ _ _ h => h) (Or.inl ⟨by rfl, ?_⟩) (by assumption) ?_
          rotate_left 1
          · (intro w hSw; (try dsimp only at hSw); go_simp; (try with_reducible rfl))
          try simp only [Act.put, List.setIfInBounds_toArray, List.set_cons_zero, List.set_cons_succ]
          refine wpAnyH_take (i := 5) (v := ?_) (by simp only [List.getElem?_toArray, List.getElem?_cons_succ, List.getElem?_cons_zero]; rfl) (by kernel_rfl) (by kernel_rfl) (by kernel_rfl) (fun _ _ _ h => h) (Or.inl ⟨by rfl, ?_⟩) (by assumption) ?_
          rotate_left 1
          · (intro w hSw; (try dsimp only at hSw); go_simp; (try with_reducible rfl))
          try simp only [Act.put, List.setIfInBounds_toArray, List.set_cons_zero, List.set_cons_succ]
          refine wpAnyH_take (i := 6) (v := ?_) (by simp only [List.getElem?_toArray, List.getElem?_cons_succ, List.getElem?_cons_zero]; rfl) (by kernel_rfl) (by kernel_rfl) (by kernel_rfl) (fun _ _ _ h => h) (Or.inl ⟨by rfl, ?_⟩) (by assumption) ?_
          rotate_left 1
          · (intro w hSw; (try dsimp only at hSw); go_simp; (try with_reducible rfl))
          try simp only [Act.put, List.setIfInBounds_toArray, List.set_cons_zero, List.set_cons_succ]
          refine wpAnyH_take (i := 7) (v := ?_) (by simp only [List.getElem?_toArray, List.getElem?_cons_succ, List.getElem?_cons_zero]; rfl) (by kernel_rfl) (by kernel_rfl) (by kernel_rfl) (fun _ _ _ h => h) (Or.inl ⟨by rfl, ?_⟩) (by assumption) ?_
          rotate_left 1
          · (intro w hSw; (try dsimp only at hSw); go_simp; (try with_reducible rfl))
          try simp only [Act.put, List.setIfInBounds_toArray, List.set_cons_zero, List.set_cons_succ]
          refine wpAnyH_take (i := 8) (v := ?_) (by simp only [List.getElem?_toArray, List.getElem?_cons_succ, List.getElem?_cons_zero]; rfl) (by kernel_rfl) (by kernel_rfl) (by kernel_rfl) (fun _ _ _ h => h) (Or.inl ⟨by rfl, ?_⟩) (by assumption) ?_
          rotate_left 1
          · (intro w hSw; (try dsimp only at hSw); go_simp; (try with_reducible rfl))
          try simp only [Act.put, List.setIfInBounds_toArray, List.set_cons_zero, List.set_cons_succ]
          refine wpAnyH_take (i := 9) (v := ?_) (by simp only [List.getElem?_toArray, List.getElem?_cons_succ, List.getElem?_cons_zero]; rfl) (by kernel_rfl) (by kernel_rfl) (by kernel_rfl) (fun _ _ _ h => h) (Or.inl ⟨by rfl, ?_⟩) (by assumption) ?_
          rotate_left 1
          · (intro w hSw; (try dsimp only at hSw); go_simp; (try with_reducible rfl))
          try simp only [Act.put, List.setIfInBounds_toArray, List.set_cons_zero, List.set_cons_succ]
          refine wpAnyH_take (i := 10) (v := ?_) (by simp only [List.getElem?_toArray, List.getElem?_cons_succ, List.getElem?_cons_zero]; rfl) (by kernel_rfl) (by kernel_rfl) (by kernel_rfl) (fun _ _ _ h => h) (Or.inl ⟨by rfl, ?_⟩) (by assumption) ?_
          rotate_left 1
          · (intro w hSw; (try dsimp only at hSw); go_simp; (try with_reducible rfl))
          try simp only [Act.put, List.setIfInBounds_toArray, List.set_cons_zero, List.set_cons_succ]
          refine wpAnyH_take (i := 11) (v := ?_) (by simp only [List.getElem?_toArray, List.getElem?_cons_succ, List.getElem?_cons_zero]; rfl) (by kernel_rfl) (by kernel_rfl) (by kernel_rfl) (fun _ _ _ h => h) (Or.inl ⟨by rfl, ?_⟩) (by assumption) ?_
          rotate_left 1
          · (intro w hSw; (try dsimp only at hSw); go_simp; (try with_reducible rfl))
          try simp only [Act.put, List.setIfInBounds_toArray, List.set_cons_zero, List.set_cons_succ]
          refine wpAnyH_take (i := 12) (v := ?_) (by simp only [List.getElem?_toArray, List.getElem?_cons_succ, List.getElem?_cons_zero]; rfl) (by kernel_rfl) (by kernel_rfl) (by kernel_rfl) (fun _ _ _ h => h) (Or.inl ⟨by rfl, ?_⟩) (by assumption) ?_
          rotate_left 1
          · (intro w hSw; (try dsimp only at hSw); go_simp; (try with_reducible rfl))
          try simp only [Act.put, List.setIfInBounds_toArray, List.set_cons_zero, List.set_cons_succ]
          refine wpAnyH_take (i := 13) (v := ?_) (by simp only [List.getElem?_toArray, List.getElem?_cons_succ, List.getElem?_cons_zero]; rfl) (by kernel_rfl) (by kernel_rfl) (by kernel_rfl) (fun _ _ _ h => h) (Or.inl ⟨by rfl, ?_⟩) (by assumption) ?_
          rotate_left 1
          · (intro w hSw; (try dsimp only at hSw); go_simp; (try with_reducible rfl))
          try simp only [Act.put, List.setIfInBounds_toArray, List.set_cons_zero, List.set_cons_succ]
          refine wpAnyH_done (by kernel_rfl) ?_ _
          intro K hK
          go_simp
          refine hK _ _ (NoPanic.normal ?_)
          clear hK K
          generalize hw23 : World.setCell _ _ _ = w23
          have hb23 : Blk w23 g T (ctxV (mbL P.K (l + 1)) ((ixL P.K l).set (s * 4 + k) (l : Int)) 0 0) := by
            subst hw23
            rw [← ctx_six (mbL_len _ _) (ixL_len _ _) (by omega), show 4 + (s * 4 + k) = 4 + s * 4 + k by omega]
            exact (HB20.out.keep ((Keep.refl w20 Nul).drewN _) (fun e => e)).set_ _ _
          rw [← M3.out] at hb23
          have k23 : Keep wr w23 (· = g) := by subst hw23; exact (K20.out.trans ((Keep.refl w20 (· = g)).drewN _) (fun _ _ e => e)).setg _ (fun _ => rfl) _
          have HB23 := hide hb23
          have K23 := hide k23
          clear hw23 hb23 k23 d0 d1 hx2 hfr2 hHeld
          refine (show ∀ a w, _ → _ by assumption) _ _ ?_
          go_wp2_with fail
          go_roundw
          case rel => exact ⟨_, _, _, _, _, _, _, _, _, _, _, _, _, _, _, _, _, _, _, _, _, _, _, _, _, _, _, _, _, _, _, _, _, _, _, _, _, _, _, _, _, _, _, _, _, _, _, _, _, _, _, _, _, _, _, _, _, _, _, _, _, _, _, _, _, _, _, _, _, _, _, _, _, _, _, _, _, _, _, _, _, _, _, _, _, _, _, _, _, _, _, _, _, _, _, _, _, _, _, _, _, _, ⟨l + 1, by omega, by go_num, HB23.out, HK3.out.trans K23.out (fun _ _ e => e)⟩, rfl⟩
          case measure => simp [intOf]; omega
        · obtain rfl : l = P.L := by omega
          have HB9 := HB3
          go_wp2_with fail
          (try go_ret)
          exact ⟨rfl, HB9.out, (KA.out.nul (· = g)).trans HK3.out (fun _ _ e => e)⟩
end Go.Proofs.YtdlnmkpojiofoaaDoor
