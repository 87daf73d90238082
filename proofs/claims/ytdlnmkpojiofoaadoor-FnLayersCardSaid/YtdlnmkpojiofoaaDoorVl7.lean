/-
  VLA.calcTargetBitratesSize. Conditions: those that stand in each theorem.
-/
import Derived.Test.YtdlnmkpojiofoaaDoorVl6
namespace Go.Proofs.YtdlnmkpojiofoaaDoor
open Go.RowKit
set_option linter.unusedVariables false
set_option linter.unusedSimpArgs false
set_option maxRecDepth 100000

theorem ix_all : ((List.range 5).all fun K => (List.range 5).all fun S => (List.range S).all fun s => (List.range 4).all fun k => (ixL K (S * K))[s * 4 + k]? == some (if k < K then ((s * K + k : Nat) : Int) else -1)) = true := by decide +kernel
theorem ix_at {P : Pv} (h : P.Ok) {s k : Nat} (hs : s < P.S) (hk : k < 4) : (ixL P.K P.L)[s * 4 + k]? = some (if k < P.K then ((s * P.K + k : Nat) : Int) else -1) := by
  have h0 := ix_all
  rw [List.all_eq_true] at h0
  have h1 := h0 P.K (List.mem_range.2 (by have := h.k4; omega))
  rw [List.all_eq_true] at h1
  have h2 := h1 P.S (List.mem_range.2 (by have := h.s4; omega))
  rw [List.all_eq_true] at h2
  have h3 := h2 s (List.mem_range.2 hs)
  rw [List.all_eq_true] at h3
  have h4 := h3 k (List.mem_range.2 hk)
  simp only [beq_iff_eq] at h4
  exact h4
theorem lay_lt {P : Pv} {s k : Nat} (hs : s < P.S) (hk : k < P.K) : s * P.K + k < P.L := by
  have : (s + 1) * P.K ≤ P.S * P.K := Nat.mul_le_mul_right _ hs
  rw [Nat.succ_mul] at this
  unfold Pv.L
  omega
def sumN (l : List Nat) : Nat := (l.map lebN).sum
theorem sumN_snoc (l : List Nat) (x : Nat) : sumN (l ++ [x]) = sumN l + lebN x := by simp [sumN]
theorem sumN_b : ∀ (l : List Nat), sumN l ≤ 4 * l.length
  | [] => by simp [sumN]
  | x :: l => by
    have h1 := sumN_b l
    have h2 := (lebN_b x).2
    simp only [sumN, List.map_cons, List.sum_cons, List.length_cons] at *
    omega
theorem I64_at {l : List Nat} {j r : Nat} (h : l[j]? = some r) : (I64 l)[j]? = some (.int .i64 (r : Int)) := by simp [I64, h]
/-- How many layers are passed in front of stream s's place k. -/
def nl (K s k : Nat) : Nat := s * K + min k K
theorem nl_b {P : Pv} (h : P.Ok) {s k : Nat} (hs : s < P.S) : nl P.K s k ≤ 16 := by
  have h2 := h.s4; have h4 := h.k4
  have : (s + 1) * P.K ≤ 4 * 4 := Nat.mul_le_mul (by omega) h4
  rw [Nat.succ_mul] at this
  unfold nl
  omega

set_option maxHeartbeats 3200000 in
theorem calc_walk {p : Nat → Prop} {P : Pv} {b o c g : Nat} {T : TypeId} {ds : List Value} {mbs : List Int} {cm0 : Int} {rl0 : Nat} (w : World) (hP : P.Ok) (hL : LR w p P b o ds) (h4 : mbs.length = 4) (hg : Blk w g T (ctxV mbs (ixL P.K P.L) cm0 (rl0 : Int))) (hpg : ∀ i, i < w.heap.size → p i → ¬ i = g) (hc : P.L ≤ c) (hr : rl0 ≤ 1000) :
    Calls Tryd.prog 63 #[.agg (P.vla b o c), .pointer (some ⟨g, 0, none⟩)] w fun e w' => e = .returned (.tuple #[]) ∧ Blk w' g T (ctxV mbs (ixL P.K P.L) cm0 ((rl0 + P.L * sumN P.rs : Nat) : Int)) ∧ Keep w w' (· = g) := by
  have HP := hide hP
  have hL16 := hP.L16
  have HG := hide hg
  have hgl := hg.lt
  have HLR := hide hL
  have HPG := hide hpg
  have hsb := sumN_b P.rs
  have ht4 := hP.t4
  have hS4 := hP.s4
  have hK4 := hP.k4
  clear hL hg hP hpg
  unfold Pv.vla
  go_enter Tryd.func63, Tryd.ntmps63
  go_upto_region 1 with fail
  generalize hwa : World.alloc w _ = wa
  have BX := hide (show Blk wa w.heap.size 69 (P.vla b o c) by subst hwa; exact Blk.new w _ _)
  have KA := hide (show Keep w wa Nul by subst hwa; exact (Keep.refl w Nul).alloc _)
  have GA := hide (HG.out.keep KA.out (fun e => e))
  generalize hv0 : Value.agg _ = v0
  clear hwa hv0
  have hng : w.heap.size ≠ g := by omega
  obtain ⟨g2, hg2⟩ : ∃ g2, g2 = w.heap.size := ⟨_, rfl⟩
  rw [← hg2] at BX hng ⊢
  have hpw : ∀ wq : World, Keep wa wq (· = g) → LR wq p P b o ds := fun wq hk => (HLR.out.keep KA.out (fun _ _ _ e => e)).keep hk (fun i hi hpi e => by
    by_cases hiw : i < w.heap.size
    · exact HPG.out i hiw hpi e
    · have : i = g := e; omega)
  have HPW := hide hpw
  clear hg2 hpw
  go_wp2_with fail
  go_loopw [4] (fun s4 wr => ∃ s : Nat, s ≤ P.S ∧ s4 = .int .i64 (s : Int) ∧ Blk wr g T (ctxV mbs (ixL P.K P.L) cm0 ((rl0 + s * P.K * sumN P.rs : Nat) : Int)) ∧ Keep wa wr (· = g)) (fun s4 _ => P.S - (intOf s4).toNat)
  case atStart => exact ⟨0, by omega, rfl, by simpa using GA.out, Keep.refl _ _⟩
  case round =>
    obtain ⟨s, hs, rfl, hb, hk⟩ := hrel
    have HB := hide hb
    have HK := hide hk
    have BX1 := hide (BX.out.keep hk (fun e => hng e))
    have x1 := BX1.out.cell 1 (v := .int .i64 (P.S : Nat)) rfl
    have hgl1 := BX1.out.lt
    clear hb hk
    by_cases hlt : s < P.S
    · have kl : (s : Int) < (P.S : Int) := by omega
      go_wp2_with fail
      go_loopw [15] (fun s15 wq => ∃ k : Nat, k ≤ 4 ∧ s15 = .int .i64 (k : Int) ∧ Blk wq g T (ctxV mbs (ixL P.K P.L) cm0 ((rl0 + nl P.K s k * sumN P.rs : Nat) : Int)) ∧ Keep wa wq (· = g)) (fun s15 _ => 4 - (intOf s15).toNat)
      case atStart => exact ⟨0, by omega, rfl, by simpa [nl] using HB.out, HK.out⟩
      case round =>
        obtain ⟨k, hk4, rfl, hb, hk⟩ := hrel
        have HB2 := hide hb
        have HK2 := hide hk
        have BX2 := hide (BX.out.keep hk (fun e => hng e))
        have y2 := BX2.out.cell 2 (v := .slice (some ⟨b, o, none⟩) P.L c) rfl
        have hgl2 := BX2.out.lt
        have hbl2 := hb.lt
        clear hb hk x1
        by_cases hlt2 : k < 4
        · have kl2 : (k : Int) < 4 := by omega
          have hix := HB2.out.cell (4 + (s * 4 + k)) (ctx_ix h4 (ixL_len _ _) (ix_at HP.out hlt hlt2))
          rw [show 4 + (s * 4 + k) = 4 + s * 4 + k by omega] at hix
          by_cases hkK : k < P.K
          · rw [if_pos hkK] at hix
            have hll := lay_lt hlt hkK
            have hnl : nl P.K s k = s * P.K + k := by unfold nl; omega
            have hnl1 : nl P.K s (k + 1) = s * P.K + k + 1 := by unfold nl; omega
            have hnb := nl_b HP.out hlt (k := k)
            rw [hnl] at HB2 hnb
            generalize hle : s * P.K + k = l at *
            have HN1 := hide hnl1
            have hds : ds[l]? = some (ds[l]'(by rw [HLR.out.dl]; exact hll)) := List.getElem?_eq_getElem _
            have hLq := HPW.out _ HK2.out
            have c2 := hLq.cell l _ hds 2 _ rfl
            have hrt := hLq.rate l _ hds
            obtain ⟨Ad, cd, hd⟩ := hrt.shape
            rw [hd] at c2 hrt
            have HDS := hide (show ds[l]? = some (.slice Ad P.rs.length cd) by rw [hds, hd])
            have hbb := hLq.blt
            have kll : (l : Int) < (P.L : Int) := by omega
            clear hds hLq hd hrt hnl hle hnl1
            generalize hR : sumN P.rs = R at *
            have HR := hide hR
            clear hR
            go_wp2_with fail
            go_loopw [35] (fun s35 wi => ∃ j : Nat, j ≤ P.rs.length ∧ s35 = .int .i64 (j : Int) ∧ Blk wi g T (ctxV mbs (ixL P.K P.L) cm0 ((rl0 + l * R + sumN (P.rs.take j) : Nat) : Int)) ∧ Keep wa wi (· = g)) (fun s35 _ => P.rs.length - (intOf s35).toNat)
            case atStart => exact ⟨0, by omega, rfl, by simpa [sumN] using HB2.out, HK2.out⟩
            case round =>
              obtain ⟨j, hj, rfl, hb, hk⟩ := hrel
              have HB3 := hide hb
              have HK3 := hide hk
              have hbl3 := hb.lt
              clear hb hk
              by_cases hlt3 : j < P.rs.length
              · have kl3 : (j : Int) < (P.rs.length : Int) := by omega
                have hrj : P.rs[j]? = some P.rs[j] := List.getElem?_eq_getElem _
                have hrb := HP.out.rs _ (List.getElem_mem hlt3)
                have htk : P.rs.take (j + 1) = P.rs.take j ++ [P.rs[j]] := List.take_succ_eq_append_getElem hlt3
                have hsn := sumN_snoc (P.rs.take j) P.rs[j]
                rw [← htk] at hsn
                have hsb2 := sumN_b (P.rs.take j)
                have hln : (P.rs.take j).length ≤ 4 := by rw [List.length_take]; omega
                generalize P.rs[j] = r at *
                have HSN := hide hsn
                have hrt := (HPW.out _ HK3.out).rate l _ HDS.out
                obtain ⟨b3, o3, c3, hv3, _, _, _, hbl4, hcl⟩ := hrt.lit (by omega)
                injection hv3 with e1 _ e3
                subst e1 e3
                have cj := hcl j _ (I64_at hrj)
                have crl := HB3.out.cell 21 (ctx_rl h4 (ixL_len _ _))
                have hfr3 := HB3.out.free 21
                have hRb : l * R ≤ 16 * 16 := Nat.mul_le_mul (by omega) (by omega)
                obtain ⟨a0, ha0⟩ : ∃ a0 : Nat, a0 = rl0 + l * R + sumN (P.rs.take j) := ⟨_, rfl⟩
                rw [← ha0] at crl HB3
                have haB : a0 ≤ 2000 := by omega
                have qz : IntKind.u64.wrap (r : Int) = (r : Int) := by rw [IntKind.wrap_u64]; omega
                have hLS := hide (fun w => lsize_walk r hrb w)
                have hNb := (lebN_b r).2
                have HA0 := hide ha0
                clear ha0 hsn hcl hrt htk hrj
                go_upto_region 12 with fail
                refine wp_region_noPanic ?_
                refine region_last2' (S := fun w' => w'.cell? ⟨g, 21, none⟩ = some (.int .i64 (a0 : Int))) (by kernel_rfl) (by kernel_rfl) (by simp only [List.dropLast_cons_cons, List.dropLast_singleton]; rfl) (by simp only [List.getLast?_cons_cons, List.getLast?_singleton]; rfl) (crl) (fun hHeld => ?_)
                simp only [List.length_cons, List.length_nil, Nat.reduceAdd, Nat.zero_add]
                refine wpAnyH_take (i := 0) (v := ?_) (by simp only [List.getElem?_toArray, List.getElem?_cons_succ, List.getElem?_cons_zero]; rfl) (by kernel_rfl) (by kernel_rfl) (by kernel_rfl) (fun _ _ _ h => h) (Or.inl ⟨by rfl, ?_⟩) (by assumption) ?_
                rotate_left 1
                · (intro w hSw; (try dsimp only at hSw); go_simp; (try with_reducible rfl))
                try simp only [Act.put, List.setIfInBounds_toArray, List.set_cons_zero, List.set_cons_succ]
                refine wpAnyH_take (i := 1) (v := ?_) (by simp only [List.getElem?_toArray, List.getElem?_cons_succ, List.getElem?_cons_zero]; rfl) (by kernel_rfl) (by kernel_rfl) (by kernel_rfl) (fun _ _ _ h => h) (Or.inl ⟨by rfl, ?_⟩) (by assumption) ?_
                rotate_left 1
                · (intro w hSw; (try dsimp only at hSw); go_simp; (try with_reducible rfl))
                try simp only [Act.put, List.setIfInBounds_toArray, List.set_cons_zero, List.set_cons_succ]
                refine wpAnyH_take (i := 2) (v := ?_) (by simp only [List.getElem?_toArray, List.getElem?_cons_succ, List.getElem?_cons_zero]; rfl) (by kernel_rfl) (by kernel_rfl) (by kernel_rfl) (fun _ _ _ h => h) (Or.inl ⟨by rfl, ?_⟩) (by assumption) ?_
                rotate_left 1
                · (intro w hSw; (try dsimp only at hSw); go_simp; (try with_reducible rfl))
                try simp only [Act.put, List.setIfInBounds_toArray, List.set_cons_zero, List.set_cons_succ]
                refine wpAnyH_take (i := 3) (v := ?_) (by simp only [List.getElem?_toArray, List.getElem?_cons_succ, List.getElem?_cons_zero]; rfl) (by kernel_rfl) (by kernel_rfl) (by kernel_rfl) (fun _ _ _ h => h) (Or.inl ⟨by rfl, ?_⟩) (by assumption) ?_
                rotate_left 1
                · (intro w hSw; (try dsimp only at hSw); go_simp; (try with_reducible rfl))
                try simp only [Act.put, List.setIfInBounds_toArray, List.set_cons_zero, List.set_cons_succ]
                refine wpAnyH_take (i := 4) (v := ?_) (by simp only [List.getElem?_toArray, List.getElem?_cons_succ, List.getElem?_cons_zero]; rfl) (by kernel_rfl) (by kernel_rfl) (by kernel_rfl) (fun _ _ _ h => h) (Or.inl ⟨by rfl, ?_⟩) (by assumption) ?_
                rotate_left 1
                · (intro w hSw; (try dsimp only at hSw); go_simp; (try with_reducible rfl))
                try simp only [Act.put, List.setIfInBounds_toArray, List.set_cons_zero, List.set_cons_succ]
                refine wpAnyH_take (i := 5) (v := ?_) (by simp only [List.getElem?_toArray, List.getElem?_cons_succ, List.getElem?_cons_zero]; rfl) (by kernel_rfl) (by kernel_rfl) (by kernel_rfl) (fun _ _ _ h => h) (Or.inl ⟨by rfl, ?_⟩) (by assumption) ?_
                rotate_left 1
                · (intro w hSw; (try dsimp only at hSw); go_simp; (try with_reducible rfl))
                try simp only [Act.put, List.setIfInBounds_toArray, List.set_cons_zero, List.set_cons_succ]
                refine wpAnyH_ready (rs := [6]) (by kernel_rfl) (by simp) ?_
                refine AllReadyH.cons (by simp only [List.getElem?_toArray, List.getElem?_cons_succ, List.getElem?_cons_zero]; rfl) (fun K hK => ?_) AllReadyH.nil
                go_simp
                go_at_call 70
                refine (hLS.out _).mono ?_
                rintro e w1 ⟨rfl, rfl⟩
                simp only []
                refine hK.out _ _ (crl) (fun hHeld => ?_)
                clear hK K
                try simp only [Act.put, List.setIfInBounds_toArray, List.set_cons_zero, List.set_cons_succ]
                refine wpAnyH_take (i := 7) (v := ?_) (by simp only [List.getElem?_toArray, List.getElem?_cons_succ, List.getElem?_cons_zero]; rfl) (by kernel_rfl) (by kernel_rfl) (by kernel_rfl) (fun _ _ _ h => h) (Or.inl ⟨by rfl, ?_⟩) (by assumption) ?_
                rotate_left 1
                · (intro w hSw; (try dsimp only at hSw); go_simp; (try with_reducible rfl))
                try simp only [Act.put, List.setIfInBounds_toArray, List.set_cons_zero, List.set_cons_succ]
                refine wpAnyH_take (i := 8) (v := ?_) (by simp only [List.getElem?_toArray, List.getElem?_cons_succ, List.getElem?_cons_zero]; rfl) (by kernel_rfl) (by kernel_rfl) (by kernel_rfl) (fun _ _ _ h => h) (Or.inl ⟨by rfl, ?_⟩) (by assumption) ?_
                rotate_left 1
                · (intro w hSw; (try dsimp only at hSw); go_simp; (try with_reducible rfl))
                try simp only [Act.put, List.setIfInBounds_toArray, List.set_cons_zero, List.set_cons_succ]
                refine wpAnyH_take (i := 9) (v := ?_) (by simp only [List.getElem?_toArray, List.getElem?_cons_succ, List.getElem?_cons_zero]; rfl) (by kernel_rfl) (by kernel_rfl) (by kernel_rfl) (fun _ _ _ h => h) (Or.inl ⟨by rfl, ?_⟩) (by assumption) ?_
                rotate_left 1
                · (intro w hSw; (try dsimp only at hSw); go_simp; (try with_reducible rfl))
                try simp only [Act.put, List.setIfInBounds_toArray, List.set_cons_zero, List.set_cons_succ]
                refine wpAnyH_done (by kernel_rfl) ?_ _
                intro K hK
                go_simp
                refine hK _ _ (NoPanic.normal ?_)
                clear hK K
                rw [show IntKind.i64.wrap ((a0 : Int) + ((lebN r : Nat) : Int)) = ((a0 + lebN r : Nat) : Int) by rw [IntKind.wrap_i64]; omega]
                generalize hw9 : World.drew _ = w9
                have hb9 : Blk w9 g T (ctxV mbs (ixL P.K P.L) cm0 ((a0 + lebN r : Nat) : Int)) := by subst hw9; rw [← ctx_srl (rl := (a0 : Int)) h4 (ixL_len _ _)]; exact (HB3.out.set_ 21 _).drew
                have k9 : Keep wr w9 (· = g) := by subst hw9; exact ((Keep.refl wr (· = g)).setg 21 (fun _ => rfl) _).drew
                rw [show a0 + lebN r = rl0 + l * R + sumN (P.rs.take (j + 1)) by rw [HA0.out, HSN.out]; omega] at hb9
                have HB9 := hide hb9
                have K9 := hide k9
                clear hw9 hb9 k9 crl hfr3 hHeld cj
                refine (show ∀ a w, _ → _ by assumption) _ _ ?_
                go_wp2_with fail
                go_roundw
                case rel => exact ⟨j + 1, by omega, by go_num, HB9.out, HK3.out.trans K9.out (fun _ _ e => e)⟩
                case measure => simp [intOf]; omega
              · obtain rfl : j = P.rs.length := by omega
                rw [List.take_length, HR.out] at HB3
                go_wp2_with fail
                go_roundw
                case rel => exact ⟨k + 1, by omega, by go_num, by rw [HN1.out, Nat.succ_mul, ← Nat.add_assoc]; exact HB3.out, HK3.out⟩
                case measure => simp [intOf]; omega
          · rw [if_neg hkK] at hix
            have hnl1 : nl P.K s (k + 1) = nl P.K s k := by unfold nl; omega
            have HN1 := hide hnl1
            clear hnl1
            go_wp2_with fail
            go_roundw
            case rel => exact ⟨k + 1, by omega, by go_num, by rw [HN1.out]; exact HB2.out, HK2.out⟩
            case measure => simp [intOf]; omega
        · obtain rfl : k = 4 := by omega
          have hnl1 : nl P.K s 4 = (s + 1) * P.K := by unfold nl; rw [Nat.succ_mul]; omega
          rw [hnl1] at HB2
          clear hnl1
          go_wp2_with fail
          go_roundw
          case rel => exact ⟨s + 1, by omega, by go_num, HB2.out, HK2.out⟩
          case measure => simp [intOf]; omega
    · obtain rfl : s = P.S := by omega
      go_wp2_with fail
      (first | go_ret | go_end0)
      exact ⟨rfl, HB.out, (KA.out.nul (· = g)).trans HK.out (fun _ _ e => e)⟩
end Go.Proofs.YtdlnmkpojiofoaaDoor
