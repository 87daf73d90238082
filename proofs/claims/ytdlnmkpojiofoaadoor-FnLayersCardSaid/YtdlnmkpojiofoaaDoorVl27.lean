/-
  VLA.unmarshalResolutionAndFramerate. Conditions: those that stand in each theorem.
-/
import Derived.Test.YtdlnmkpojiofoaaDoorVl26
namespace Go.Proofs.YtdlnmkpojiofoaaDoor
open Go.RowKit
set_option linter.unusedVariables false
set_option linter.unusedSimpArgs false
set_option maxRecDepth 100000

set_option maxHeartbeats 6400000 in
theorem ur_walk {P : Pv} {b o n c gv gu B c2 : Nat} {A2 : Option Addr} {gs : List Nat} {val : Nat → List Nat} (w : World) (R : RD w P b o gv gu B) (hn : n = P.len) (hnc : n ≤ c) (hcm : c ≤ maxLen) (hsz : P.sized = true)
    (hv : Blk w gv 69 (P.vv (.slice A2 P.L c2) false)) (hu : Blk w gu 88 (uctV (some ⟨b, o, none⟩) n c ((1 + P.tl + P.L * sumN P.rs : Nat) : Int) P.cm (mbL P.K P.L)))
    (hlq : LQ w B P.l0 P.rs.length (.slice A2 P.L c2) P.L gs val) :
    Calls Tryd.prog 33 #[.pointer (some ⟨gv, 0, none⟩), .pointer (some ⟨gu, 0, none⟩)] w fun e w' => e = .returned .nilIface ∧ Blk w' gv 69 (P.vv (.slice A2 P.L c2) true) ∧ LQ w' B (P.fS P.L) P.rs.length (.slice A2 P.L c2) P.L gs val ∧ Blk w' gu 88 (uctV (some ⟨b, o, none⟩) n c (n : Int) P.cm (mbL P.K P.L)) ∧ Keep w w' (fun x => (x = gv ∨ x = gu) ∨ B ≤ x) := by
  have hL16 := R.ok.L16
  have hlb := R.ok.lenB
  have hle := len_sized hsz
  obtain ⟨fl, hfl⟩ : ∃ fl, fl = 1 + P.tl + P.L * sumN P.rs := ⟨_, rfl⟩
  rw [← hfl] at hu hle
  have hlen : fl + P.L * 5 = n := by omega
  have RR := hide R
  have HV := hide hv
  have HU := hide hu
  have HL := hide hlq
  have HSZ := hide hsz
  have HN := hide hn
  have HFL := hide hfl
  have HLEN := hide hlen
  have hn4 : n ≤ 400 := by omega
  have hf4 : fl ≤ 400 := by omega
  have nvu := R.vu
  have nbv := R.bv
  have nbu := R.bu
  have hBv := R.vB
  have hBu := R.uB
  have hbB := R.bB
  have hChk := chk_walk (off := fl) (m := P.L * 5) w hu (by omega) (by omega)
  rw [Int.natCast_mul] at hChk
  have HCHK := hide hChk
  have v2 := hv.cell 2 (v := .slice A2 P.L c2) rfl
  have hgv := hv.lt
  have q5 : IntKind.i64.wrap ((P.L : Int) * 5) = (P.L : Int) * 5 := by rw [IntKind.wrap_i64]; omega
  clear R hv hu hn hlq hsz hfl hlen hle hChk hlb
  go_enter Tryd.func33, Tryd.ntmps33
  go_wp2_with fail
  refine Calls.mono (show Calls _ _ #[.pointer (some ⟨gu, 0, none⟩), .int .i64 ((P.L : Int) * 5)] _ _ from HCHK.out) ?_
  rintro e w1 ⟨rfl, k1⟩
  have RR1 := hide (RR.out.keep k1 (fun e => e))
  have HV1 := hide (HV.out.keep k1 (fun e => e))
  have HU1 := hide (HU.out.keep k1 (fun e => e))
  have HL1 := hide (HL.out.keep0 k1)
  have HK1 := hide k1
  have v2 := HV1.out.cell 2 (v := .slice A2 P.L c2) rfl
  have v3 := HV1.out.cell 3 (v := .bool false) rfl
  have f3 := HV1.out.free 3
  have hgv := HV1.out.lt
  clear k1 HCHK
  go_upto_region 4 with fail
  generalize hw2 : World.setCell _ _ _ = w2
  have k2 : Keep w1 w2 (· = gv) := by subst hw2; exact Keep.set1 _ _ _ _
  have hv2 : Blk w2 gv 69 (P.vv (.slice A2 P.L c2) true) := by subst hw2; exact HV1.out.set_ 3 _
  have HV2 := hide hv2
  have RR2 := hide (RR1.out.keep k2 (fun e => nbv e))
  have HU2 := hide (HU1.out.keep k2 (fun e => nvu e.symm))
  have HL2 := hide (HL1.out.keep k2 (fun q _ e => by have : q = gv := e; omega))
  have HK2 := hide ((HK1.out.nul (fun x => (x = gv ∨ x = gu) ∨ B ≤ x)).trans k2 (fun _ _ e => .inl (.inl e)))
  have v2 := hv2.cell 2 (v := .slice A2 P.L c2) rfl
  have hgv := hv2.lt
  clear hw2 k2 hv2 v3 f3
  go_wp2_with fail
  go_loopw [24] (fun s24 wr => ∃ l x : Nat, l ≤ P.L ∧ s24 = .int .i64 (l : Int) ∧ x = fl + l * 5 ∧ Blk wr gu 88 (uctV (some ⟨b, o, none⟩) n c (x : Int) P.cm (mbL P.K P.L)) ∧ LQ wr B (P.fS l) P.rs.length (.slice A2 P.L c2) P.L gs val ∧ Keep w2 wr (fun x => x = gu ∨ B ≤ x)) (fun s24 _ => P.L - (intOf s24).toNat)
  case atStart => exact ⟨0, fl, by omega, rfl, by omega, HU2.out, by rw [fS_zero]; exact HL2.out, Keep.refl _ _⟩
  case round =>
    obtain ⟨l, x, hl, rfl, hx, hbu, hlq, hk⟩ := hrel
    have HU3 := hide hbu
    have HL3 := hide hlq
    have HK3 := hide hk
    have HX := hide hx
    have RR3 := hide (RR2.out.keep hk (fun e => by rcases e with e | e <;> omega))
    have HV3 := hide (HV2.out.keep hk (fun e => by rcases e with e | e <;> omega))
    clear hbu hk v2 hgv
    by_cases hlt : l < P.L
    · have kl : (l : Int) < (P.L : Int) := by omega
      obtain ⟨gb, c', g, hve, hBg, hgbl, hLc, -, -, -⟩ := hlq.at_ (fS_len P l) hlt
      injection hve with e1 _ e3
      subst e1 e3
      have hWb : 1 ≤ P.W l ∧ P.W l ≤ 5000 := by
        have h1 := RR.out.ok.z1; have h2 := RR.out.ok.z2; have h3 := mod_lt RR.out.ok l; have h4 := RR.out.ok.k4
        unfold Pv.W; rw [HSZ.out, if_pos rfl]; generalize l % P.K = z at *; omega
      have hHb : 1 ≤ P.H l ∧ P.H l ≤ 5000 := by
        have h1 := RR.out.ok.z1; have h2 := RR.out.ok.z2; have h3 := div_lt RR.out.ok hlt; have h4 := RR.out.ok.s4
        unfold Pv.H; rw [HSZ.out, if_pos rfl]; generalize l / P.K = z at *; omega
      have hFb : P.F ≤ 255 := by unfold Pv.F; rw [HSZ.out, if_pos rfl]; omega
      have HFN := hide (fS_next P l)
      have hd : ∀ (j : Nat) (z : Int), j < 5 → (P.sz5 l)[j]? = some z → ∀ w', (∀ i, i = b → True) → Keep wr w' (fun q => B ≤ q) → w'.cell? ⟨b, o + x + j, none⟩ = some (.int .u8 z) := fun j z hj hz w' _ k => by
        have h := RR3.out.dat (x + j) z (by rw [HX.out, HFL.out, out_sz HSZ.out hlt hj]; exact hz)
        rw [← Nat.add_assoc] at h
        exact k.cell (a := ⟨b, o + x + j, none⟩) (fun e => by have e' : B ≤ b := e; omega) h
      have d0 := fun w' k => hd 0 _ (by omega) rfl w' (fun _ _ => trivial) k
      have d1 := fun w' k => hd 1 _ (by omega) rfl w' (fun _ _ => trivial) k
      have d2 := fun w' k => hd 2 _ (by omega) rfl w' (fun _ _ => trivial) k
      have d3 := fun w' k => hd 3 _ (by omega) rfl w' (fun _ _ => trivial) k
      have d4 := fun w' k => hd 4 _ (by omega) rfl w' (fun _ _ => trivial) k
      have h6 := hide (fS_len P l)
      clear hd
      obtain ⟨v, hv⟩ : ∃ v : Nat, v = P.W l - 1 := ⟨_, rfl⟩
      obtain ⟨u, hu⟩ : ∃ u : Nat, u = P.H l - 1 := ⟨_, rfl⟩
      rw [← hv] at d0 d1
      rw [← hu] at d2 d3
      generalize P.W l = W at *
      generalize P.H l = H at *
      generalize P.F = F at *
      have D0 := hide d0
      have D1 := hide d1
      have D2 := hide d2
      have D3 := hide d3
      have D4 := hide d4
      have hlen := HLEN.out
      have hl5 : (l + 1) * 5 ≤ P.L * 5 := Nat.mul_le_mul_right _ hlt
      have hxn : x + 5 ≤ n := by omega
      have kx : (x : Int) ≤ (n : Int) := by omega
      have kx0 : (0 : Int) ≤ (x : Int) := by omega
      have kx1 : ¬ c = x := by omega
      have kx2 : x ≤ n := by omega
      have kx3 : x ≤ c := by omega
      have e0 : IntKind.i64.wrap (x : Int) = (x : Int) := by rw [IntKind.wrap_i64]; omega
      have jx : (x : Int) + 2 ≤ (n : Int) := by omega
      have jx0 : (0 : Int) ≤ (x : Int) + 2 := by omega
      have jx1 : ¬ c = x + 2 := by omega
      have jx2 : x + 2 ≤ n := by omega
      have jx5 : x + 2 ≤ c := by omega
      have jx3 : ((x : Int) + 2).toNat = x + 2 := by omega
      have jx4 : IntKind.i64.wrap ((x : Int) + 2) = (x : Int) + 2 := by rw [IntKind.wrap_i64]; omega
      have ix : (x : Int) + 4 < (n : Int) := by omega
      have ix0 : (0 : Int) ≤ (x : Int) + 4 := by omega
      have ix3 : ((x : Int) + 4).toNat = x + 4 := by omega
      have ix4 : IntKind.i64.wrap ((x : Int) + 4) = (x : Int) + 4 := by rw [IntKind.wrap_i64]; omega
      have px4 : IntKind.i64.wrap ((x : Int) + 5) = (x : Int) + 5 := by rw [IntKind.wrap_i64]; omega
      have hvb : v ≤ 5000 := by omega
      have hub : u ≤ 5000 := by omega
      have e1 : IntKind.i64.wrap (v : Int) = (v : Int) := by rw [IntKind.wrap_i64]; omega
      have e2 : IntKind.i64.wrap ((v : Int) + 1) = (W : Int) := by rw [IntKind.wrap_i64]; omega
      have e3 : IntKind.i64.wrap (u : Int) = (u : Int) := by rw [IntKind.wrap_i64]; omega
      have e4 : IntKind.i64.wrap ((u : Int) + 1) = (H : Int) := by rw [IntKind.wrap_i64]; omega
      have e5 : IntKind.i64.wrap (F : Int) = (F : Int) := by rw [IntKind.wrap_i64]; omega
      have q1 : ((v / 256 : Nat) : Int) * 256 + ((v % 256 : Nat) : Int) = (v : Int) := by omega
      have q2 : ((u / 256 : Nat) : Int) * 256 + ((u % 256 : Nat) : Int) = (u : Int) := by omega
      have u0 := HU3.out.cell 0 uct_0
      have u1 := HU3.out.cell 1 uct_1
      have hgu := HU3.out.lt
      have hgv := HV3.out.lt
      have v2 := HV3.out.cell 2 (v := .slice (some ⟨gb, 0, none⟩) P.L c2) rfl
      have hbb := RR3.out.bl
      have ngu : ¬ gu = gb := fun e => by omega
      have ngv : ¬ gv = gb := fun e => by omega
      have nbb : ¬ b = gb := fun e => by omega
      have hP1 := hide ((be16 b (o + x) (n - x) (c - x) ((v / 256 : Nat) : Int) ((v % 256 : Nat) : Int) wr.drew (by omega) (by omega) (by omega) (D0.out _ (Keep.refl wr _).drew) (D1.out _ (Keep.refl wr _).drew)).mono fun e w' ⟨he, hw⟩ => (⟨by rw [he, q1], hw⟩ : e = Ending.returned (.int .u16 (v : Int)) ∧ wr.drew.drew = w'))
      obtain ⟨hs1, ⟨t1, ht1⟩, fr1⟩ := HL3.out.setF_ h6.out hlt (by omega : 3 < 6) (.int .i64 (W : Int))
      have HS1 := hide hs1
      have Q1 := hide q1
      have Q2 := hide q2
      have HVV := hide hv
      have HUU := hide hu
      clear hlq hx hs1 d0 d1 d2 d3 d4 q1 q2 hv hu hlen hWb hHb
      go_upto_region 7 with fail
      refine wp_region_noPanic ?_
      refine region_last2' (S := fun w' => w'.cell? ⟨gu, 0, none⟩ = some (.slice (some ⟨b, o, none⟩) n c) ∧ w'.cell? ⟨gu, 1, none⟩ = some (.int .i64 (x : Int)) ∧ w'.cell? ⟨gv, 2, none⟩ = some (.slice (some ⟨gb, 0, none⟩) P.L c2)) (by kernel_rfl) (by kernel_rfl) (by simp only [List.dropLast_cons_cons, List.dropLast_singleton]; rfl) (by simp only [List.getLast?_cons_cons, List.getLast?_singleton]; rfl) (⟨u0, u1, v2⟩) (fun hHeld => ?_)
      simp only [List.length_cons, List.length_nil, Nat.reduceAdd, Nat.zero_add]
      refine wpAnyH_take (i := 0) (v := ?_) (by simp only [List.getElem?_toArray, List.getElem?_cons_succ, List.getElem?_cons_zero]; rfl) (by kernel_rfl) (by kernel_rfl) (by kernel_rfl) (fun _ _ _ h => h) (Or.inl ⟨by rfl, ?_⟩) (by assumption) ?_
      rotate_left 1
      · (intro w hSw; (try dsimp only at hSw); go_simp; (try with_reducible rfl))
      try simp only [Act.put, List.setIfInBounds_toArray, List.set_cons_zero, List.set_cons_succ]
      refine wpAnyH_take (i := 1) (v := ?_) (by simp only [List.getElem?_toArray, List.getElem?_cons_succ, List.getElem?_cons_zero]; rfl) (by kernel_rfl) (by kernel_rfl) (by kernel_rfl) (fun _ _ _ h => h) (Or.inl ⟨by rfl, ?_⟩) (by assumption) ?_
      rotate_left 1
      · (intro w hSw; (try dsimp only at hSw); go_simp; (try with_reducible rfl))
      try simp only [Act.put, List.setIfInBounds_toArray, List.set_cons_zero, List.set_cons_succ]
      refine wpAnyH_take (i := 2) (v := ?_) (by simp only [List.getElem?_toArray, List.getElem?_cons_succ, List.getElem?_cons_zero]; rfl) (by kernel_rfl) (by kernel_rfl) (by kernel_rfl) (fun _ _ _ h => h) (Or.inl ⟨by rfl, ?_⟩) (by assumption) ?_
      rotate_left 1
      · (intro w hSw; (try dsimp only at hSw); go_simp; (try with_reducible rfl))
      try simp only [Act.put, List.setIfInBounds_toArray, List.set_cons_zero, List.set_cons_succ]
      refine wpAnyH_take (i := 3) (v := ?_) (by simp only [List.getElem?_toArray, List.getElem?_cons_succ, List.getElem?_cons_zero]; rfl) (by kernel_rfl) (by kernel_rfl) (by kernel_rfl) (fun _ _ _ h => h) (Or.inl ⟨by rfl, ?_⟩) (by assumption) ?_
      rotate_left 1
      · (intro w hSw; (try dsimp only at hSw); go_simp; (try with_reducible rfl))
      try simp only [Act.put, List.setIfInBounds_toArray, List.set_cons_zero, List.set_cons_succ]
      refine wpAnyH_take (i := 4) (v := ?_) (by simp only [List.getElem?_toArray, List.getElem?_cons_succ, List.getElem?_cons_zero]; rfl) (by kernel_rfl) (by kernel_rfl) (by kernel_rfl) (fun _ _ _ h => h) (Or.inl ⟨by rfl, ?_⟩) (by assumption) ?_
      rotate_left 1
      · (intro w hSw; (try dsimp only at hSw); go_simp; (try with_reducible rfl))
      try simp only [Act.put, List.setIfInBounds_toArray, List.set_cons_zero, List.set_cons_succ]
      refine wpAnyH_take (i := 5) (v := ?_) (by simp only [List.getElem?_toArray, List.getElem?_cons_succ, List.getElem?_cons_zero]; rfl) (by kernel_rfl) (by kernel_rfl) (by kernel_rfl) (fun _ _ _ h => h) (Or.inl ⟨by rfl, ?_⟩) (by assumption) ?_
      rotate_left 1
      · (intro w hSw; (try dsimp only at hSw); go_simp; (try with_reducible rfl))
      try simp only [Act.put, List.setIfInBounds_toArray, List.set_cons_zero, List.set_cons_succ]
      refine wpAnyH_take (i := 6) (v := ?_) (by simp only [List.getElem?_toArray, List.getElem?_cons_succ, List.getElem?_cons_zero]; rfl) (by kernel_rfl) (by kernel_rfl) (by kernel_rfl) (fun _ _ _ h => h) (Or.inl ⟨by rfl, ?_⟩) (by assumption) ?_
      rotate_left 1
      · (intro w hSw; (try dsimp only at hSw); go_simp; (try with_reducible rfl))
      try simp only [Act.put, List.setIfInBounds_toArray, List.set_cons_zero, List.set_cons_succ]
      refine wpAnyH_take (i := 7) (v := ?_) (by simp only [List.getElem?_toArray, List.getElem?_cons_succ, List.getElem?_cons_zero]; rfl) (by kernel_rfl) (by kernel_rfl) (by kernel_rfl) (fun _ _ _ h => h) (Or.inl ⟨by rfl, ?_⟩) (by assumption) ?_
      rotate_left 1
      · (intro w hSw; (try dsimp only at hSw); go_simp; (try with_reducible rfl))
      try simp only [Act.put, List.setIfInBounds_toArray, List.set_cons_zero, List.set_cons_succ]
      refine wpAnyH_take (i := 8) (v := ?_) (by simp only [List.getElem?_toArray, List.getElem?_cons_succ, List.getElem?_cons_zero]; rfl) (by kernel_rfl) (by kernel_rfl) (by kernel_rfl) (fun _ _ _ h => h) (Or.inl ⟨by rfl, ?_⟩) (by assumption) ?_
      rotate_left 1
      · (intro w hSw; (try dsimp only at hSw); go_simp; (try with_reducible rfl))
      try simp only [Act.put, List.setIfInBounds_toArray, List.set_cons_zero, List.set_cons_succ]
      refine wpAnyH_take (i := 9) (v := ?_) (by simp only [List.getElem?_toArray, List.getElem?_cons_succ, List.getElem?_cons_zero]; rfl) (by kernel_rfl) (by kernel_rfl) (by kernel_rfl) (fun _ _ _ h => h) (Or.inl ⟨by rfl, ?_⟩) (by assumption) ?_
      rotate_left 1
      · (intro w hSw; (try dsimp only at hSw); go_simp; (try with_reducible rfl))
      try simp only [Act.put, List.setIfInBounds_toArray, List.set_cons_zero, List.set_cons_succ]
      refine wpAnyH_take (i := 10) (v := ?_) (by simp only [List.getElem?_toArray, List.getElem?_cons_succ, List.getElem?_cons_zero]; rfl) (by kernel_rfl) (by kernel_rfl) (by kernel_rfl) (fun _ _ _ h => h) (Or.inl ⟨by rfl, ?_⟩) (by assumption) ?_
      rotate_left 1
      · (intro w hSw; (try dsimp only at hSw); go_simp; (try with_reducible rfl))
      try simp only [Act.put, List.setIfInBounds_toArray, List.set_cons_zero, List.set_cons_succ]
      refine wpAnyH_take (i := 11) (v := ?_) (by simp only [List.getElem?_toArray, List.getElem?_cons_succ, List.getElem?_cons_zero]; rfl) (by kernel_rfl) (by kernel_rfl) (by kernel_rfl) (fun _ _ _ h => h) (Or.inl ⟨by rfl, ?_⟩) (by assumption) ?_
      rotate_left 1
      · (intro w hSw; (try dsimp only at hSw); go_simp; (try with_reducible rfl))
      try simp only [Act.put, List.setIfInBounds_toArray, List.set_cons_zero, List.set_cons_succ]
      refine wpAnyH_take (i := 12) (v := ?_) (by simp only [List.getElem?_toArray, List.getElem?_cons_succ, List.getElem?_cons_zero]; rfl) (by kernel_rfl) (by kernel_rfl) (by kernel_rfl) (fun _ _ _ h => h) (Or.inl ⟨by rfl, ?_⟩) (by assumption) ?_
      rotate_left 1
      · (intro w hSw; (try dsimp only at hSw); go_simp; (try with_reducible rfl))
      try simp only [Act.put, List.setIfInBounds_toArray, List.set_cons_zero, List.set_cons_succ]
      refine wpAnyH_take (i := 13) (v := ?_) (by simp only [List.getElem?_toArray, List.getElem?_cons_succ, List.getElem?_cons_zero]; rfl) (by kernel_rfl) (by kernel_rfl) (by kernel_rfl) (fun _ _ _ h => h) (Or.inl ⟨by rfl, ?_⟩) (by assumption) ?_
      rotate_left 1
      · (intro w hSw; (try dsimp only at hSw); go_simp; (try with_reducible rfl))
      try simp only [Act.put, List.setIfInBounds_toArray, List.set_cons_zero, List.set_cons_succ]
      refine wpAnyH_take (i := 14) (v := ?_) (by simp only [List.getElem?_toArray, List.getElem?_cons_succ, List.getElem?_cons_zero]; rfl) (by kernel_rfl) (by kernel_rfl) (by kernel_rfl) (fun _ _ _ h => h) (Or.inl ⟨by rfl, ?_⟩) (by assumption) ?_
      rotate_left 1
      · (intro w hSw; (try dsimp only at hSw); go_simp; (try with_reducible rfl))
      try simp only [Act.put, List.setIfInBounds_toArray, List.set_cons_zero, List.set_cons_succ]
      refine wpAnyH_ready (rs := [15]) (by kernel_rfl) (by simp) ?_
      refine AllReadyH.cons (by simp only [List.getElem?_toArray, List.getElem?_cons_succ, List.getElem?_cons_zero]; rfl) (fun K hK => ?_) AllReadyH.nil
      go_simp
      go_at_call 29
      refine (hP1.out).mono ?_
      rintro e w1 ⟨rfl, rfl⟩
      simp only []
      refine hK.out _ _ (⟨u0, u1, v2⟩) (fun hHeld => ?_)
      clear hK K
      try simp only [Act.put, List.setIfInBounds_toArray, List.set_cons_zero, List.set_cons_succ]
      refine wpAnyH_take (i := 16) (v := ?_) (by simp only [List.getElem?_toArray, List.getElem?_cons_succ, List.getElem?_cons_zero]; rfl) (by kernel_rfl) (by kernel_rfl) (by kernel_rfl) (fun _ _ _ h => h) (Or.inl ⟨by rfl, ?_⟩) (by assumption) ?_
      rotate_left 1
      · (intro w hSw; (try dsimp only at hSw); go_simp; (try with_reducible rfl))
      try simp only [Act.put, List.setIfInBounds_toArray, List.set_cons_zero, List.set_cons_succ]
      refine wpAnyH_take (i := 17) (v := ?_) (by simp only [List.getElem?_toArray, List.getElem?_cons_succ, List.getElem?_cons_zero]; rfl) (by kernel_rfl) (by kernel_rfl) (by kernel_rfl) (fun _ _ _ h => h) (Or.inl ⟨by rfl, ?_⟩) (by assumption) ?_
      rotate_left 1
      · (intro w hSw; (try dsimp only at hSw); go_simp; (try with_reducible rfl))
      try simp only [Act.put, List.setIfInBounds_toArray, List.set_cons_zero, List.set_cons_succ]
      refine wpAnyH_take (i := 18) (v := ?_) (by simp only [List.getElem?_toArray, List.getElem?_cons_succ, List.getElem?_cons_zero]; rfl) (by kernel_rfl) (by kernel_rfl) (by kernel_rfl) (fun _ _ _ h => h) (Or.inl ⟨by rfl, ?_⟩) (by assumption) ?_
      rotate_left 1
      · (intro w hSw; (try dsimp only at hSw); go_simp; (try with_reducible rfl))
      try simp only [Act.put, List.setIfInBounds_toArray, List.set_cons_zero, List.set_cons_succ]
      refine wpAnyH_take (i := 19) (v := ?_) (by simp only [List.getElem?_toArray, List.getElem?_cons_succ, List.getElem?_cons_zero]; rfl) (by kernel_rfl) (by kernel_rfl) (by kernel_rfl) (fun _ _ _ h => h) (Or.inl ⟨by rfl, ?_⟩) (by assumption) ?_
      rotate_left 1
      · (intro w hSw; (try dsimp only at hSw); go_simp; (try with_reducible rfl))
      try simp only [Act.put, List.setIfInBounds_toArray, List.set_cons_zero, List.set_cons_succ]
      refine wpAnyH_done (by kernel_rfl) ?_ _
      intro K hK
      go_simp
      refine hK _ _ (NoPanic.normal ?_)
      clear hK K
      generalize hw4 : World.drew (World.drew (World.setCell wr _ _)) = w4
      have KS1 := hide (show Keep wr w4 (· = gb) by subst hw4; exact ((Keep.set1 _ _ _ _).drew).drew)
      have HS1B := hide (show LQ w4 B (setF (P.fS l) l 3 (.int .i64 (W : Int))) P.rs.length (.slice (some ⟨gb, 0, none⟩) P.L c2) P.L gs val by subst hw4; exact HS1.out.keep0 (((Keep.refl _ Nul).drew).drew))
      have HU4 := hide (HU3.out.keep KS1.out (fun e => ngu e))
      have HV4 := hide (HV3.out.keep KS1.out (fun e => ngv e))
      have HK4 := hide (HK3.out.trans KS1.out (fun _ _ e => by have e' : _ = gb := e; exact .inr (by rw [e']; exact hBg)))
      have KD4 := hide (KS1.out.mono (S' := fun q => B ≤ q) (fun _ _ e => by have e' : _ = gb := e; rw [e']; exact hBg))
      clear hw4 u0 u1 v2 ht1 fr1 hHeld hP1
      have u0 := HU4.out.cell 0 uct_0
      have u1 := HU4.out.cell 1 uct_1
      have v2 := HV4.out.cell 2 (v := .slice (some ⟨gb, 0, none⟩) P.L c2) rfl
      have hgu4 := HU4.out.lt
      have hgv4 := HV4.out.lt
      have hbb4 := Nat.lt_of_lt_of_le hbb KD4.out.size
      have hgbl4 := Nat.lt_of_lt_of_le hgbl KD4.out.size
      have hP2 := hide ((be16 b (o + (x + 2)) (n - (x + 2)) (c - (x + 2)) ((u / 256 : Nat) : Int) ((u % 256 : Nat) : Int) w4.drew (by omega) (by omega) (by omega) (by have := D2.out _ KD4.out.drew; rwa [Nat.add_assoc] at this) (by have := D3.out _ KD4.out.drew; rwa [show o + x + 3 = o + (x + 2) + 1 by omega] at this)).mono fun e w' ⟨he, hw⟩ => (⟨by rw [he, Q2.out], hw⟩ : e = Ending.returned (.int .u16 (u : Int)) ∧ w4.drew.drew = w'))
      obtain ⟨hs2, ⟨t2, ht2⟩, fr2⟩ := HS1B.out.setF_ (setF_len h6.out _ _ _) hlt (by omega : 4 < 6) (.int .i64 (H : Int))
      have HS2 := hide hs2
      clear hs2 hgu hgv hbb hgbl
      refine (show ∀ a w, _ → _ by assumption) _ _ ?_
      go_upto_region 8 with fail
      refine wp_region_noPanic ?_
      refine region_last2' (S := fun w' => w'.cell? ⟨gu, 0, none⟩ = some (.slice (some ⟨b, o, none⟩) n c) ∧ w'.cell? ⟨gu, 1, none⟩ = some (.int .i64 (x : Int)) ∧ w'.cell? ⟨gv, 2, none⟩ = some (.slice (some ⟨gb, 0, none⟩) P.L c2)) (by kernel_rfl) (by kernel_rfl) (by simp only [List.dropLast_cons_cons, List.dropLast_singleton]; rfl) (by simp only [List.getLast?_cons_cons, List.getLast?_singleton]; rfl) (⟨u0, u1, v2⟩) (fun hHeld => ?_)
      simp only [List.length_cons, List.length_nil, Nat.reduceAdd, Nat.zero_add]
      refine wpAnyH_take (i := 0) (v := ?_) (by simp only [List.getElem?_toArray, List.getElem?_cons_succ, List.getElem?_cons_zero]; rfl) (by kernel_rfl) (by kernel_rfl) (by kernel_rfl) (fun _ _ _ h => h) (Or.inl ⟨by rfl, ?_⟩) (by assumption) ?_
      rotate_left 1
      · (intro w hSw; (try dsimp only at hSw); go_simp; (try with_reducible rfl))
      try simp only [Act.put, List.setIfInBounds_toArray, List.set_cons_zero, List.set_cons_succ]
      refine wpAnyH_take (i := 1) (v := ?_) (by simp only [List.getElem?_toArray, List.getElem?_cons_succ, List.getElem?_cons_zero]; rfl) (by kernel_rfl) (by kernel_rfl) (by kernel_rfl) (fun _ _ _ h => h) (Or.inl ⟨by rfl, ?_⟩) (by assumption) ?_
      rotate_left 1
      · (intro w hSw; (try dsimp only at hSw); go_simp; (try with_reducible rfl))
      try simp only [Act.put, List.setIfInBounds_toArray, List.set_cons_zero, List.set_cons_succ]
      refine wpAnyH_take (i := 2) (v := ?_) (by simp only [List.getElem?_toArray, List.getElem?_cons_succ, List.getElem?_cons_zero]; rfl) (by kernel_rfl) (by kernel_rfl) (by kernel_rfl) (fun _ _ _ h => h) (Or.inl ⟨by rfl, ?_⟩) (by assumption) ?_
      rotate_left 1
      · (intro w hSw; (try dsimp only at hSw); go_simp; (try with_reducible rfl))
      try simp only [Act.put, List.setIfInBounds_toArray, List.set_cons_zero, List.set_cons_succ]
      refine wpAnyH_take (i := 3) (v := ?_) (by simp only [List.getElem?_toArray, List.getElem?_cons_succ, List.getElem?_cons_zero]; rfl) (by kernel_rfl) (by kernel_rfl) (by kernel_rfl) (fun _ _ _ h => h) (Or.inl ⟨by rfl, ?_⟩) (by assumption) ?_
      rotate_left 1
      · (intro w hSw; (try dsimp only at hSw); go_simp; (try with_reducible rfl))
      try simp only [Act.put, List.setIfInBounds_toArray, List.set_cons_zero, List.set_cons_succ]
      refine wpAnyH_take (i := 4) (v := ?_) (by simp only [List.getElem?_toArray, List.getElem?_cons_succ, List.getElem?_cons_zero]; rfl) (by kernel_rfl) (by kernel_rfl) (by kernel_rfl) (fun _ _ _ h => h) (Or.inl ⟨by rfl, ?_⟩) (by assumption) ?_
      rotate_left 1
      · (intro w hSw; (try dsimp only at hSw); go_simp; (try with_reducible rfl))
      try simp only [Act.put, List.setIfInBounds_toArray, List.set_cons_zero, List.set_cons_succ]
      refine wpAnyH_take (i := 5) (v := ?_) (by simp only [List.getElem?_toArray, List.getElem?_cons_succ, List.getElem?_cons_zero]; rfl) (by kernel_rfl) (by kernel_rfl) (by kernel_rfl) (fun _ _ _ h => h) (Or.inl ⟨by rfl, ?_⟩) (by assumption) ?_
      rotate_left 1
      · (intro w hSw; (try dsimp only at hSw); go_simp; (try with_reducible rfl))
      try simp only [Act.put, List.setIfInBounds_toArray, List.set_cons_zero, List.set_cons_succ]
      refine wpAnyH_take (i := 6) (v := ?_) (by simp only [List.getElem?_toArray, List.getElem?_cons_succ, List.getElem?_cons_zero]; rfl) (by kernel_rfl) (by kernel_rfl) (by kernel_rfl) (fun _ _ _ h => h) (Or.inl ⟨by rfl, ?_⟩) (by assumption) ?_
      rotate_left 1
      · (intro w hSw; (try dsimp only at hSw); go_simp; (try with_reducible rfl))
      try simp only [Act.put, List.setIfInBounds_toArray, List.set_cons_zero, List.set_cons_succ]
      refine wpAnyH_take (i := 7) (v := ?_) (by simp only [List.getElem?_toArray, List.getElem?_cons_succ, List.getElem?_cons_zero]; rfl) (by kernel_rfl) (by kernel_rfl) (by kernel_rfl) (fun _ _ _ h => h) (Or.inl ⟨by rfl, ?_⟩) (by assumption) ?_
      rotate_left 1
      · (intro w hSw; (try dsimp only at hSw); go_simp; (try with_reducible rfl))
      try simp only [Act.put, List.setIfInBounds_toArray, List.set_cons_zero, List.set_cons_succ]
      refine wpAnyH_take (i := 8) (v := ?_) (by simp only [List.getElem?_toArray, List.getElem?_cons_succ, List.getElem?_cons_zero]; rfl) (by kernel_rfl) (by kernel_rfl) (by kernel_rfl) (fun _ _ _ h => h) (Or.inl ⟨by rfl, ?_⟩) (by assumption) ?_
      rotate_left 1
      · (intro w hSw; (try dsimp only at hSw); go_simp; (try with_reducible rfl))
      try simp only [Act.put, List.setIfInBounds_toArray, List.set_cons_zero, List.set_cons_succ]
      refine wpAnyH_take (i := 9) (v := ?_) (by simp only [List.getElem?_toArray, List.getElem?_cons_succ, List.getElem?_cons_zero]; rfl) (by kernel_rfl) (by kernel_rfl) (by kernel_rfl) (fun _ _ _ h => h) (Or.inl ⟨by rfl, ?_⟩) (by assumption) ?_
      rotate_left 1
      · (intro w hSw; (try dsimp only at hSw); go_simp; (try with_reducible rfl))
      try simp only [Act.put, List.setIfInBounds_toArray, List.set_cons_zero, List.set_cons_succ]
      refine wpAnyH_take (i := 10) (v := ?_) (by simp only [List.getElem?_toArray, List.getElem?_cons_succ, List.getElem?_cons_zero]; rfl) (by kernel_rfl) (by kernel_rfl) (by kernel_rfl) (fun _ _ _ h => h) (Or.inl ⟨by rfl, ?_⟩) (by assumption) ?_
      rotate_left 1
      · (intro w hSw; (try dsimp only at hSw); go_simp; (try with_reducible rfl))
      try simp only [Act.put, List.setIfInBounds_toArray, List.set_cons_zero, List.set_cons_succ]
      refine wpAnyH_take (i := 11) (v := ?_) (by simp only [List.getElem?_toArray, List.getElem?_cons_succ, List.getElem?_cons_zero]; rfl) (by kernel_rfl) (by kernel_rfl) (by kernel_rfl) (fun _ _ _ h => h) (Or.inl ⟨by rfl, ?_⟩) (by assumption) ?_
      rotate_left 1
      · (intro w hSw; (try dsimp only at hSw); go_simp; (try with_reducible rfl))
      try simp only [Act.put, List.setIfInBounds_toArray, List.set_cons_zero, List.set_cons_succ]
      refine wpAnyH_take (i := 12) (v := ?_) (by simp only [List.getElem?_toArray, List.getElem?_cons_succ, List.getElem?_cons_zero]; rfl) (by kernel_rfl) (by kernel_rfl) (by kernel_rfl) (fun _ _ _ h => h) (Or.inl ⟨by rfl, ?_⟩) (by assumption) ?_
      rotate_left 1
      · (intro w hSw; (try dsimp only at hSw); go_simp; (try with_reducible rfl))
      try simp only [Act.put, List.setIfInBounds_toArray, List.set_cons_zero, List.set_cons_succ]
      refine wpAnyH_take (i := 13) (v := ?_) (by simp only [List.getElem?_toArray, List.getElem?_cons_succ, List.getElem?_cons_zero]; rfl) (by kernel_rfl) (by kernel_rfl) (by kernel_rfl) (fun _ _ _ h => h) (Or.inl ⟨by rfl, ?_⟩) (by assumption) ?_
      rotate_left 1
      · (intro w hSw; (try dsimp only at hSw); go_simp; (try with_reducible rfl))
      try simp only [Act.put, List.setIfInBounds_toArray, List.set_cons_zero, List.set_cons_succ]
      refine wpAnyH_take (i := 14) (v := ?_) (by simp only [List.getElem?_toArray, List.getElem?_cons_succ, List.getElem?_cons_zero]; rfl) (by kernel_rfl) (by kernel_rfl) (by kernel_rfl) (fun _ _ _ h => h) (Or.inl ⟨by rfl, ?_⟩) (by assumption) ?_
      rotate_left 1
      · (intro w hSw; (try dsimp only at hSw); go_simp; (try with_reducible rfl))
      try simp only [Act.put, List.setIfInBounds_toArray, List.set_cons_zero, List.set_cons_succ]
      refine wpAnyH_ready (rs := [15]) (by kernel_rfl) (by simp) ?_
      refine AllReadyH.cons (by simp only [List.getElem?_toArray, List.getElem?_cons_succ, List.getElem?_cons_zero]; rfl) (fun K hK => ?_) AllReadyH.nil
      go_simp
      go_at_call 29
      refine (hP2.out).mono ?_
      rintro e w1 ⟨rfl, rfl⟩
      simp only []
      refine hK.out _ _ (⟨u0, u1, v2⟩) (fun hHeld => ?_)
      clear hK K
      try simp only [Act.put, List.setIfInBounds_toArray, List.set_cons_zero, List.set_cons_succ]
      refine wpAnyH_take (i := 16) (v := ?_) (by simp only [List.getElem?_toArray, List.getElem?_cons_succ, List.getElem?_cons_zero]; rfl) (by kernel_rfl) (by kernel_rfl) (by kernel_rfl) (fun _ _ _ h => h) (Or.inl ⟨by rfl, ?_⟩) (by assumption) ?_
      rotate_left 1
      · (intro w hSw; (try dsimp only at hSw); go_simp; (try with_reducible rfl))
      try simp only [Act.put, List.setIfInBounds_toArray, List.set_cons_zero, List.set_cons_succ]
      refine wpAnyH_take (i := 17) (v := ?_) (by simp only [List.getElem?_toArray, List.getElem?_cons_succ, List.getElem?_cons_zero]; rfl) (by kernel_rfl) (by kernel_rfl) (by kernel_rfl) (fun _ _ _ h => h) (Or.inl ⟨by rfl, ?_⟩) (by assumption) ?_
      rotate_left 1
      · (intro w hSw; (try dsimp only at hSw); go_simp; (try with_reducible rfl))
      try simp only [Act.put, List.setIfInBounds_toArray, List.set_cons_zero, List.set_cons_succ]
      refine wpAnyH_take (i := 18) (v := ?_) (by simp only [List.getElem?_toArray, List.getElem?_cons_succ, List.getElem?_cons_zero]; rfl) (by kernel_rfl) (by kernel_rfl) (by kernel_rfl) (fun _ _ _ h => h) (Or.inl ⟨by rfl, ?_⟩) (by assumption) ?_
      rotate_left 1
      · (intro w hSw; (try dsimp only at hSw); go_simp; (try with_reducible rfl))
      try simp only [Act.put, List.setIfInBounds_toArray, List.set_cons_zero, List.set_cons_succ]
      refine wpAnyH_take (i := 19) (v := ?_) (by simp only [List.getElem?_toArray, List.getElem?_cons_succ, List.getElem?_cons_zero]; rfl) (by kernel_rfl) (by kernel_rfl) (by kernel_rfl) (fun _ _ _ h => h) (Or.inl ⟨by rfl, ?_⟩) (by assumption) ?_
      rotate_left 1
      · (intro w hSw; (try dsimp only at hSw); go_simp; (try with_reducible rfl))
      try simp only [Act.put, List.setIfInBounds_toArray, List.set_cons_zero, List.set_cons_succ]
      refine wpAnyH_done (by kernel_rfl) ?_ _
      intro K hK
      go_simp
      refine hK _ _ (NoPanic.normal ?_)
      clear hK K
      generalize hw5 : World.drew (World.drew (World.setCell w4 _ _)) = w5
      have KS2 := hide (show Keep w4 w5 (· = gb) by subst hw5; exact ((Keep.set1 _ _ _ _).drew).drew)
      have HS2B := hide (show LQ w5 B (setF (setF (P.fS l) l 3 (.int .i64 (W : Int))) l 4 (.int .i64 (H : Int))) P.rs.length (.slice (some ⟨gb, 0, none⟩) P.L c2) P.L gs val by subst hw5; exact HS2.out.keep0 (((Keep.refl _ Nul).drew).drew))
      have HU5 := hide (HU4.out.keep KS2.out (fun e => ngu e))
      have HV5 := hide (HV4.out.keep KS2.out (fun e => ngv e))
      have HK5 := hide (HK4.out.trans KS2.out (fun _ _ e => by have e' : _ = gb := e; exact .inr (by rw [e']; exact hBg)))
      have KD5 := hide (KD4.out.trans KS2.out (fun _ _ e => by have e' : _ = gb := e; rw [e']; exact hBg))
      clear hw5 u0 u1 v2 ht2 fr2 hHeld hP2
      have u0 := HU5.out.cell 0 uct_0
      have u1 := HU5.out.cell 1 uct_1
      have v2 := HV5.out.cell 2 (v := .slice (some ⟨gb, 0, none⟩) P.L c2) rfl
      have hgu5 := HU5.out.lt
      have hgv5 := HV5.out.lt
      have hbb5 := Nat.lt_of_lt_of_le hbb4 KS2.out.size
      have hgbl5 := Nat.lt_of_lt_of_le hgbl4 KS2.out.size
      have y4 := D4.out _ KD5.out
      rw [Nat.add_assoc] at y4
      obtain ⟨hs3, ⟨t3, ht3⟩, fr3⟩ := HS2B.out.setF_ (setF_len (setF_len h6.out _ _ _) _ _ _) hlt (by omega : 5 < 6) (.int .i64 (F : Int))
      rw [HFN.out] at hs3
      have HS3 := hide hs3
      clear hs3 hgu4 hgv4 hbb4 hgbl4
      refine (show ∀ a w, _ → _ by assumption) _ _ ?_
      go_upto_region 9 with fail
      refine wp_region_noPanic ?_
      refine region_last2' (S := fun w' => w'.cell? ⟨gu, 0, none⟩ = some (.slice (some ⟨b, o, none⟩) n c) ∧ w'.cell? ⟨gu, 1, none⟩ = some (.int .i64 (x : Int)) ∧ w'.cell? ⟨gv, 2, none⟩ = some (.slice (some ⟨gb, 0, none⟩) P.L c2) ∧ w'.cell? ⟨b, o + (x + 4), none⟩ = some (.int .u8 (F : Int))) (by kernel_rfl) (by kernel_rfl) (by simp only [List.dropLast_cons_cons, List.dropLast_singleton]; rfl) (by simp only [List.getLast?_cons_cons, List.getLast?_singleton]; rfl) (⟨u0, u1, v2, y4⟩) (fun hHeld => ?_)
      simp only [List.length_cons, List.length_nil, Nat.reduceAdd, Nat.zero_add]
      refine wpAnyH_take (i := 0) (v := ?_) (by simp only [List.getElem?_toArray, List.getElem?_cons_succ, List.getElem?_cons_zero]; rfl) (by kernel_rfl) (by kernel_rfl) (by kernel_rfl) (fun _ _ _ h => h) (Or.inl ⟨by rfl, ?_⟩) (by assumption) ?_
      rotate_left 1
      · (intro w hSw; (try dsimp only at hSw); go_simp; (try with_reducible rfl))
      try simp only [Act.put, List.setIfInBounds_toArray, List.set_cons_zero, List.set_cons_succ]
      refine wpAnyH_take (i := 1) (v := ?_) (by simp only [List.getElem?_toArray, List.getElem?_cons_succ, List.getElem?_cons_zero]; rfl) (by kernel_rfl) (by kernel_rfl) (by kernel_rfl) (fun _ _ _ h => h) (Or.inl ⟨by rfl, ?_⟩) (by assumption) ?_
      rotate_left 1
      · (intro w hSw; (try dsimp only at hSw); go_simp; (try with_reducible rfl))
      try simp only [Act.put, List.setIfInBounds_toArray, List.set_cons_zero, List.set_cons_succ]
      refine wpAnyH_take (i := 2) (v := ?_) (by simp only [List.getElem?_toArray, List.getElem?_cons_succ, List.getElem?_cons_zero]; rfl) (by kernel_rfl) (by kernel_rfl) (by kernel_rfl) (fun _ _ _ h => h) (Or.inl ⟨by rfl, ?_⟩) (by assumption) ?_
      rotate_left 1
      · (intro w hSw; (try dsimp only at hSw); go_simp; (try with_reducible rfl))
      try simp only [Act.put, List.setIfInBounds_toArray, List.set_cons_zero, List.set_cons_succ]
      refine wpAnyH_take (i := 3) (v := ?_) (by simp only [List.getElem?_toArray, List.getElem?_cons_succ, List.getElem?_cons_zero]; rfl) (by kernel_rfl) (by kernel_rfl) (by kernel_rfl) (fun _ _ _ h => h) (Or.inl ⟨by rfl, ?_⟩) (by assumption) ?_
      rotate_left 1
      · (intro w hSw; (try dsimp only at hSw); go_simp; (try with_reducible rfl))
      try simp only [Act.put, List.setIfInBounds_toArray, List.set_cons_zero, List.set_cons_succ]
      refine wpAnyH_take (i := 4) (v := ?_) (by simp only [List.getElem?_toArray, List.getElem?_cons_succ, List.getElem?_cons_zero]; rfl) (by kernel_rfl) (by kernel_rfl) (by kernel_rfl) (fun _ _ _ h => h) (Or.inl ⟨by rfl, ?_⟩) (by assumption) ?_
      rotate_left 1
      · (intro w hSw; (try dsimp only at hSw); go_simp; (try with_reducible rfl))
      try simp only [Act.put, List.setIfInBounds_toArray, List.set_cons_zero, List.set_cons_succ]
      refine wpAnyH_take (i := 5) (v := ?_) (by simp only [List.getElem?_toArray, List.getElem?_cons_succ, List.getElem?_cons_zero]; rfl) (by kernel_rfl) (by kernel_rfl) (by kernel_rfl) (fun _ _ _ h => h) (Or.inl ⟨by rfl, ?_⟩) (by assumption) ?_
      rotate_left 1
      · (intro w hSw; (try dsimp only at hSw); go_simp; (try with_reducible rfl))
      try simp only [Act.put, List.setIfInBounds_toArray, List.set_cons_zero, List.set_cons_succ]
      refine wpAnyH_take (i := 6) (v := ?_) (by simp only [List.getElem?_toArray, List.getElem?_cons_succ, List.getElem?_cons_zero]; rfl) (by kernel_rfl) (by kernel_rfl) (by kernel_rfl) (fun _ _ _ h => h) (Or.inl ⟨by rfl, ?_⟩) (by assumption) ?_
      rotate_left 1
      · (intro w hSw; (try dsimp only at hSw); go_simp; (try with_reducible rfl))
      try simp only [Act.put, List.setIfInBounds_toArray, List.set_cons_zero, List.set_cons_succ]
      refine wpAnyH_take (i := 7) (v := ?_) (by simp only [List.getElem?_toArray, List.getElem?_cons_succ, List.getElem?_cons_zero]; rfl) (by kernel_rfl) (by kernel_rfl) (by kernel_rfl) (fun _ _ _ h => h) (Or.inl ⟨by rfl, ?_⟩) (by assumption) ?_
      rotate_left 1
      · (intro w hSw; (try dsimp only at hSw); go_simp; (try with_reducible rfl))
      try simp only [Act.put, List.setIfInBounds_toArray, List.set_cons_zero, List.set_cons_succ]
      refine wpAnyH_take (i := 8) (v := ?_) (by simp only [List.getElem?_toArray, List.getElem?_cons_succ, List.getElem?_cons_zero]; rfl) (by kernel_rfl) (by kernel_rfl) (by kernel_rfl) (fun _ _ _ h => h) (Or.inl ⟨by rfl, ?_⟩) (by assumption) ?_
      rotate_left 1
      · (intro w hSw; (try dsimp only at hSw); go_simp; (try with_reducible rfl))
      try simp only [Act.put, List.setIfInBounds_toArray, List.set_cons_zero, List.set_cons_succ]
      refine wpAnyH_take (i := 9) (v := ?_) (by simp only [List.getElem?_toArray, List.getElem?_cons_succ, List.getElem?_cons_zero]; rfl) (by kernel_rfl) (by kernel_rfl) (by kernel_rfl) (fun _ _ _ h => h) (Or.inl ⟨by rfl, ?_⟩) (by assumption) ?_
      rotate_left 1
      · (intro w hSw; (try dsimp only at hSw); go_simp; (try with_reducible rfl))
      try simp only [Act.put, List.setIfInBounds_toArray, List.set_cons_zero, List.set_cons_succ]
      refine wpAnyH_take (i := 10) (v := ?_) (by simp only [List.getElem?_toArray, List.getElem?_cons_succ, List.getElem?_cons_zero]; rfl) (by kernel_rfl) (by kernel_rfl) (by kernel_rfl) (fun _ _ _ h => h) (Or.inl ⟨by rfl, ?_⟩) (by assumption) ?_
      rotate_left 1
      · (intro w hSw; (try dsimp only at hSw); go_simp; (try with_reducible rfl))
      try simp only [Act.put, List.setIfInBounds_toArray, List.set_cons_zero, List.set_cons_succ]
      refine wpAnyH_take (i := 11) (v := ?_) (by simp only [List.getElem?_toArray, List.getElem?_cons_succ, List.getElem?_cons_zero]; rfl) (by kernel_rfl) (by kernel_rfl) (by kernel_rfl) (fun _ _ _ h => h) (Or.inl ⟨by rfl, ?_⟩) (by assumption) ?_
      rotate_left 1
      · (intro w hSw; (try dsimp only at hSw); go_simp; (try with_reducible rfl))
      try simp only [Act.put, List.setIfInBounds_toArray, List.set_cons_zero, List.set_cons_succ]
      refine wpAnyH_take (i := 12) (v := ?_) (by simp only [List.getElem?_toArray, List.getElem?_cons_succ, List.getElem?_cons_zero]; rfl) (by kernel_rfl) (by kernel_rfl) (by kernel_rfl) (fun _ _ _ h => h) (Or.inl ⟨by rfl, ?_⟩) (by assumption) ?_
      rotate_left 1
      · (intro w hSw; (try dsimp only at hSw); go_simp; (try with_reducible rfl))
      try simp only [Act.put, List.setIfInBounds_toArray, List.set_cons_zero, List.set_cons_succ]
      refine wpAnyH_take (i := 13) (v := ?_) (by simp only [List.getElem?_toArray, List.getElem?_cons_succ, List.getElem?_cons_zero]; rfl) (by kernel_rfl) (by kernel_rfl) (by kernel_rfl) (fun _ _ _ h => h) (Or.inl ⟨by rfl, ?_⟩) (by assumption) ?_
      rotate_left 1
      · (intro w hSw; (try dsimp only at hSw); go_simp; (try with_reducible rfl))
      try simp only [Act.put, List.setIfInBounds_toArray, List.set_cons_zero, List.set_cons_succ]
      refine wpAnyH_take (i := 14) (v := ?_) (by simp only [List.getElem?_toArray, List.getElem?_cons_succ, List.getElem?_cons_zero]; rfl) (by kernel_rfl) (by kernel_rfl) (by kernel_rfl) (fun _ _ _ h => h) (Or.inl ⟨by rfl, ?_⟩) (by assumption) ?_
      rotate_left 1
      · (intro w hSw; (try dsimp only at hSw); go_simp; (try with_reducible rfl))
      try simp only [Act.put, List.setIfInBounds_toArray, List.set_cons_zero, List.set_cons_succ]
      refine wpAnyH_take (i := 15) (v := ?_) (by simp only [List.getElem?_toArray, List.getElem?_cons_succ, List.getElem?_cons_zero]; rfl) (by kernel_rfl) (by kernel_rfl) (by kernel_rfl) (fun _ _ _ h => h) (Or.inl ⟨by rfl, ?_⟩) (by assumption) ?_
      rotate_left 1
      · (intro w hSw; (try dsimp only at hSw); go_simp; (try with_reducible rfl))
      try simp only [Act.put, List.setIfInBounds_toArray, List.set_cons_zero, List.set_cons_succ]
      refine wpAnyH_take (i := 16) (v := ?_) (by simp only [List.getElem?_toArray, List.getElem?_cons_succ, List.getElem?_cons_zero]; rfl) (by kernel_rfl) (by kernel_rfl) (by kernel_rfl) (fun _ _ _ h => h) (Or.inl ⟨by rfl, ?_⟩) (by assumption) ?_
      rotate_left 1
      · (intro w hSw; (try dsimp only at hSw); go_simp; (try with_reducible rfl))
      try simp only [Act.put, List.setIfInBounds_toArray, List.set_cons_zero, List.set_cons_succ]
      refine wpAnyH_take (i := 17) (v := ?_) (by simp only [List.getElem?_toArray, List.getElem?_cons_succ, List.getElem?_cons_zero]; rfl) (by kernel_rfl) (by kernel_rfl) (by kernel_rfl) (fun _ _ _ h => h) (Or.inl ⟨by rfl, ?_⟩) (by assumption) ?_
      rotate_left 1
      · (intro w hSw; (try dsimp only at hSw); go_simp; (try with_reducible rfl))
      try simp only [Act.put, List.setIfInBounds_toArray, List.set_cons_zero, List.set_cons_succ]
      refine wpAnyH_take (i := 18) (v := ?_) (by simp only [List.getElem?_toArray, List.getElem?_cons_succ, List.getElem?_cons_zero]; rfl) (by kernel_rfl) (by kernel_rfl) (by kernel_rfl) (fun _ _ _ h => h) (Or.inl ⟨by rfl, ?_⟩) (by assumption) ?_
      rotate_left 1
      · (intro w hSw; (try dsimp only at hSw); go_simp; (try with_reducible rfl))
      try simp only [Act.put, List.setIfInBounds_toArray, List.set_cons_zero, List.set_cons_succ]
      refine wpAnyH_done (by kernel_rfl) ?_ _
      intro K hK
      go_simp
      refine hK _ _ (NoPanic.normal ?_)
      clear hK K
      generalize hw6 : World.drew (World.setCell w5 _ _) = w6
      have KS3 := hide (show Keep w5 w6 (· = gb) by subst hw6; exact (Keep.set1 _ _ _ _).drew)
      have HS3B := hide (show LQ w6 B (P.fS (l + 1)) P.rs.length (.slice (some ⟨gb, 0, none⟩) P.L c2) P.L gs val by subst hw6; exact HS3.out.keep0 ((Keep.refl _ Nul).drew))
      have HU6 := hide (HU5.out.keep KS3.out (fun e => ngu e))
      have HV6 := hide (HV5.out.keep KS3.out (fun e => ngv e))
      have HK6 := hide (HK5.out.trans KS3.out (fun _ _ e => by have e' : _ = gb := e; exact .inr (by rw [e']; exact hBg)))
      clear hw6 u0 u1 v2 y4 ht3 fr3 hHeld
      have u1 := HU6.out.cell 1 uct_1
      have fu := HU6.out.free 1
      have hgu6 := HU6.out.lt
      refine (show ∀ a w, _ → _ by assumption) _ _ ?_
      go_wp2_with fail
      go_roundw
      case rel =>
        refine ⟨l + 1, x + 5, by omega, by go_num, by have := HX.out; omega, ?_, ?_, HK6.out.setg 1 (fun _ => .inl rfl) _⟩
        · rw [show ((x + 5 : Nat) : Int) = (x : Int) + 5 by omega, ← uct_s1 (off := (x : Int))]
          exact HU6.out.set_ 1 _
        · exact HS3B.out.keep (Keep.set1 _ gu 1 _) (fun q _ e => by have : q = gu := e; omega)
      case measure => simp [intOf]; omega
    · obtain rfl : l = P.L := by omega
      have hxe : x = n := by have := HX.out; have := HLEN.out; omega
      subst hxe
      clear hlq hx
      go_wp2_with fail
      go_ret
      exact ⟨rfl, HV3.out, HL3.out, HU3.out, HK2.out.trans HK3.out (fun _ _ e => by rcases e with e | e; exact .inl (.inr e); exact .inr e)⟩
end Go.Proofs.YtdlnmkpojiofoaaDoor
