/-
  The thin package's Parse of a packet: its walk. Conditions: those that stand in each theorem.
-/
import Derived.Test.YtdmnflngafbobaaDoorPar
namespace Go.Proofs.YtdmnflngafbobaaDoor
open Go.RowKit
set_option linter.unusedVariables false
set_option linter.unusedSimpArgs false
set_option maxRecDepth 100000

theorem BL.pre {w : World} {g : Nat} {t : TypeId} {h : Hd} {sv xv : Value} {rest : List Value} (hb : BL w g t (uc h sv xv rest)) : Pre w g (rcells h sv xv 0) := by
  refine ⟨t, _, hb, fun i v hv => ?_⟩
  have e : rcells h sv xv 0 = (uc h sv xv []).toArray := rfl
  have e2 : uc h sv xv rest = uc h sv xv [] ++ rest := rfl
  rw [e] at hv
  simp only [List.getElem?_toArray] at hv ⊢
  rw [e2, List.getElem?_append_left (List.getElem?_eq_some_iff.1 hv).1]
  exact hv

theorem readP_len {bs : List Int} {h : Hd} {pay : List Int} (hr : readP bs = .good h pay) : pay.length ≤ bs.length := by
  unfold readP at hr
  split at hr
  · cases hr
  · cases hr
  · split at hr
    · cases hr; simp
    · split at hr
      · cases hr
      · split at hr
        · cases hr
        · split at hr
          · cases hr
          · cases hr; simp; omega
/-- What Parse's closure leaves. -/
def PaPost (bs : List Int) (w : World) (g2 : Nat) (e : Ending) (w' : World) : Prop :=
  ∃ (ok : Bool) (hd : Hd) (pay : List Int) (sv xv : Value) (A : Option Addr) (c : Nat), e = .returned (.bool ok) ∧ Keep w w' (· = g2) ∧ Blk w' g2 42 (kcells hd sv xv (.slice A pay.length c)) ∧ PV w' (w.heap.size ≤ ·) (.agg (kcells hd sv xv (.slice A pay.length c))) hd pay ∧ Hs hd ∧
    ((ok = true ∧ readP bs = .good hd pay) ∨ (ok = false ∧ readP bs = .bad))

set_option maxHeartbeats 3200000 in
theorem parse1 {p : Nat → Prop} {bs : List Int} {n c g1 g2 : Nat} {A : Option Addr} (w : World) (hR : Rd w p 1 (.slice A n c) n (B8 bs)) (hI : IsB bs) (hn : n ≤ 2147483647) (h1 : Blk w g1 29 #[.slice A n c]) (h2 : Blk w g2 42 (kcells hd0 (.slice none 0 0) (.slice none 0 0) (.slice none 0 0)))
    (he : Errs w) (hs : HsSpec bs) (hu : UnSpec bs) (hv : readP bs ≠ .wide) :
    Calls Tryd.prog 63 #[.pointer (some ⟨g1, 0, none⟩), .pointer (some ⟨g2, 0, none⟩)] w (PaPost bs w g2) := by
  have hl : bs.length = n := by have := hR.len; rwa [B8_len] at this
  replace hR := hR.mono (q := (· < w.heap.size)) (fun k hk _ => hk)
  have HL := hide hl
  have HR := hide hR
  have HI := hide hI
  have HE := hide he
  have HS := hide hs
  have HU := hide hu
  have HV := hide hv
  have H1 := hide h1
  have H2 := hide h2
  have lg1 := h1.lt
  have lg2 := h2.lt
  clear hl hR hI he hs hu hv h1 h2
  go_enter Tryd.func63, Tryd.ntmps63
  go_upto_region 2 with fail
  generalize hwa : World.alloc w _ = wa
  have BX := hide (show BL wa w.heap.size 110 (uc hd0 (.slice none 0 0) (.slice none 0 0) [.slice none 0 0, .int .u8 0, .slice none 0 0]) by subst hwa; exact Blk.new w _ _)
  have KA := hide (show Keep w wa Nul by subst hwa; exact (Keep.refl w Nul).alloc _)
  have hza : wa.heap.size = w.heap.size + 1 := by subst hwa; simp [World.size_alloc]
  have HZA := hide hza
  clear hwa hza
  have c1 := (H1.out.keep KA.out id).cell 0 (v := .slice A n c) rfl
  have hC := hide (clone_b wa (HR.out.keep0 KA.out) (B8_one _) (by omega))
  go_wp2_with fail
  refine (hC.out).mono ?_
  rintro e w1 ⟨v1, rfl, o1, k1, -⟩
  obtain ⟨A1, c1', rfl⟩ := o1.rd.shape
  have O1 := hide o1
  have K1 := hide (KA.out.trans0 k1)
  have BX1 := hide (BX.out.keep k1 id)
  have hz1 := k1.size
  have hat := o1.at_
  clear o1 k1 c1
  have hqg : ¬ (w1.heap.size ≤ w.heap.size ∨ (Value.slice A1 n c1').ownBlock = some w.heap.size) := by
    have h0 := HZA.out
    intro hq
    rcases hq with hq | hq
    · omega
    · have := (hat _ hq).1
      omega
  have hpx : ∀ i, (Value.slice A1 n c1').ownBlock = some i → i ≠ w.heap.size := fun i hi e => by have := (hat i hi).1; have := HZA.out; omega
  have hgl : ¬ Glob w.heap.size := fun hg => by have := HE.out.lt hg; omega
  have hUn := HU.out _ w1 n c1' w.heap.size A1 _ _ O1.out.rd hn (fun i hi => ⟨hpx i hi, (hat i hi).2.1⟩) BX1.out (HE.out.keep0 K1.out) hgl
  have hPW := hide (pun_walk (p := fun k => (Value.slice A1 n c1').ownBlock = some k) (q := fun k => w1.heap.size ≤ k ∨ (Value.slice A1 n c1').ownBlock = some k) (g := w.heap.size) w1 O1.out.rd HI.out hn hpx (fun i hi => .inr hi) (HE.out.keep0 K1.out) hgl hqg (fun h m hr => by have := HS.out h m hr; rw [HL.out] at this; exact this) HV.out hUn)
  clear hUn hqg hpx hgl
  go_wp2_with fail
  refine (hPW.out).mono ?_
  rintro e w2 hpost
  obtain ⟨ev, hd, pay, ok, rfl, hhs, hup, k2, hev, hrd, hpl⟩ : ∃ ev hd pay ok, e = .returned ev ∧ Hs hd ∧ UP w2 (fun k => w1.heap.size ≤ k ∨ (Value.slice A1 n c1').ownBlock = some k) w.heap.size hd pay ∧ Keep w1 w2 (· = w.heap.size) ∧ ((ok = true ∧ ev = Value.nilIface) ∨ (ok = false ∧ ∃ te ve, ev = .iface te ve)) ∧ ((ok = true ∧ readP bs = .good hd pay) ∨ (ok = false ∧ readP bs = .bad)) ∧ pay.length ≤ 2147483647 := by
    rcases hpost with ⟨h, pay, q1, q2, q3, q4, q5⟩ | ⟨q1, te, ve, h, q2, q3, q4, q5⟩
    · exact ⟨_, h, pay, true, q3, q2, q4, q5, .inl ⟨rfl, rfl⟩, .inl ⟨rfl, q1⟩, by have := readP_len q1; have := HL.out; omega⟩
    · exact ⟨_, h, [], false, q3, q2, q4, q5, .inr ⟨rfl, te, ve, rfl⟩, .inr ⟨rfl, q1⟩, by simp⟩
  obtain ⟨sv, xv, pv, ps, hB, r1, r2, r3⟩ := hup
  obtain ⟨A5, c5, rfl⟩ := r3.shape
  have HHS := hide hhs
  have HEV := hide hev
  have HRD := hide hrd
  have R1 := hide r1
  have R2 := hide r2
  have R3 := hide r3
  have K2 := hide (K1.out.trans k2 (fun i hi e => by omega))
  have B2 := hide hB
  have hz2 := k2.size
  clear hpost hhs hev hrd r1 r2 r3 k2 hB
  have BPre := hide (show Pre w2.drew w.heap.size (rcells hd sv xv 0) from B2.out.pre)
  have hgx : ¬ w.heap.size = g2 := by omega
  have hPl := hide (iplain_walk w2.drew BPre.out (R1.out.drew) (R2.out.keep0 ((Keep.refl w2 Nul).drew)) HHS.out.2.1 HHS.out.1 HHS.out.2.2)
  have HPL := hide hpl
  obtain ⟨m, hm⟩ : ∃ m, m = pay.length := ⟨_, rfl⟩
  have HM := hide hm
  rw [← hm] at B2 R3 hpl
  clear hm
  have HCl := hide (fun (w3 : World) (k : Keep w2.drew w3 Nul) => clone_b w3 (R3.out.drew.keep0 k) (B8_one _) (by omega))
  have z13 := B2.out.drew.cell 13 (v := .slice A5 m c5) rfl
  have hg2x : ¬ g2 = w.heap.size := fun e => hgx e.symm
  have H2w := hide ((H2.out.keep K2.out (fun e => e)).drew)
  clear hat
  go_upto_region 3 with fail
  refine wp_region_noPanic ?_
  refine region_last' (S := fun w' => w'.cell? ⟨w.heap.size, 13, none⟩ = some (.slice A5 m c5)) (by kernel_rfl) (by kernel_rfl) (by simp only [List.dropLast_cons_cons, List.dropLast_singleton]; rfl) (by simp only [List.getLast?_cons_cons, List.getLast?_singleton]; rfl) (z13) (fun hHeld => ?_)
  simp only [List.length_cons, List.length_nil, Nat.reduceAdd, Nat.zero_add]
  refine wpAnyH_take (i := 0) (v := ?_) (by simp only [List.getElem?_toArray, List.getElem?_cons_succ, List.getElem?_cons_zero]; rfl) (by kernel_rfl) (by kernel_rfl) (by kernel_rfl) (fun _ _ _ h => h) (Or.inl ⟨by rfl, ?_⟩) (by assumption) ?_
  rotate_left 1
  · (intro w hSw; (try dsimp only at hSw); go_simp; (try with_reducible rfl))
  try simp only [Act.put, List.setIfInBounds_toArray, List.set_cons_zero, List.set_cons_succ]
  refine wpAnyH_take (i := 2) (v := ?_) (by simp only [List.getElem?_toArray, List.getElem?_cons_succ, List.getElem?_cons_zero]; rfl) (by kernel_rfl) (by kernel_rfl) (by kernel_rfl) (fun _ _ _ h => h) (Or.inl ⟨by rfl, ?_⟩) (by assumption) ?_
  rotate_left 1
  · (intro w hSw; (try dsimp only at hSw); go_simp; (try with_reducible rfl))
  try simp only [Act.put, List.setIfInBounds_toArray, List.set_cons_zero, List.set_cons_succ]
  refine wpAnyH_take (i := 3) (v := ?_) (by simp only [List.getElem?_toArray, List.getElem?_cons_succ, List.getElem?_cons_zero]; rfl) (by kernel_rfl) (by kernel_rfl) (by kernel_rfl) (fun _ _ _ h => h) (Or.inl ⟨by rfl, ?_⟩) (by assumption) ?_
  rotate_left 1
  · (intro w hSw; (try dsimp only at hSw); go_simp; (try with_reducible rfl))
  try simp only [Act.put, List.setIfInBounds_toArray, List.set_cons_zero, List.set_cons_succ]
  refine wpAnyH_ready (rs := [1]) (by kernel_rfl) (by simp) ?_
  refine AllReadyH.cons (by simp only [List.getElem?_toArray, List.getElem?_cons_succ, List.getElem?_cons_zero]; rfl) (fun K hK => ?_) AllReadyH.nil
  go_simp
  go_at_call 66
  refine (hPl.out).mono ?_
  rintro e w3 ⟨k3, sv', xv', rfl, hv3⟩
  have K3 := hide k3
  have z14 := (B2.out.drew.keep k3 id).cell 13 (v := .slice A5 m c5) rfl
  obtain ⟨p1, p2⟩ := hv3.parts
  obtain ⟨A6, c6, rfl⟩ := p1.shape
  obtain ⟨A7, c7, rfl⟩ := p2.shape
  have P1 := hide p1
  have P2 := hide p2
  clear k3 hv3 p1 p2
  simp only []
  refine hK.out _ _ (z14) (fun hHeld => ?_)
  clear hK K
  try simp only [Act.put, List.setIfInBounds_toArray, List.set_cons_zero, List.set_cons_succ]
  refine wpAnyH_ready (rs := [4]) (by kernel_rfl) (by simp) ?_
  refine AllReadyH.cons (by simp only [List.getElem?_toArray, List.getElem?_cons_succ, List.getElem?_cons_zero]; rfl) (fun K hK => ?_) AllReadyH.nil
  go_simp
  go_at_call 65
  refine (HCl.out _ K3.out).mono ?_
  rintro e w4 ⟨v4, rfl, o4, k4, -⟩
  obtain ⟨A8, c8, rfl⟩ := o4.rd.shape
  have K4 := hide (K3.out.trans0 k4)
  have K34 := hide k4
  have O4 := hide o4
  have z15 := (B2.out.drew.keep K4.out id).cell 13 (v := .slice A5 m c5) rfl
  have H2x := hide (H2w.out.keep K4.out id)
  clear k4 o4
  simp only []
  refine hK.out _ _ (z15) (fun hHeld => ?_)
  clear hK K
  try simp only [Act.put, List.setIfInBounds_toArray, List.set_cons_zero, List.set_cons_succ]
  unfold hcells
  refine wpAnyH_take (i := 5) (v := ?_) (by simp only [List.getElem?_toArray, List.getElem?_cons_succ, List.getElem?_cons_zero]; rfl) (by kernel_rfl) (by kernel_rfl) (by kernel_rfl) (fun _ _ _ h => h) (Or.inl ⟨by rfl, ?_⟩) (by assumption) ?_
  rotate_left 1
  · (intro w hSw; (try dsimp only at hSw); go_simp; (try with_reducible rfl))
  try simp only [Act.put, List.setIfInBounds_toArray, List.set_cons_zero, List.set_cons_succ]
  refine wpAnyH_done (by kernel_rfl) ?_ _
  intro K hK
  refine wp_stRow rfl rfl rfl H2x.out (by kernel_rfl) rfl (by simp [Value.oneCell']) ?_
  intro w5 b5 k5
  refine hK _ _ (NoPanic.normal ?_)
  clear hK K
  have B5 := hide b5
  have K5 := hide k5
  have hzd : w.heap.size ≤ w2.drew.heap.size := Nat.le_trans K1.out.size hz2
  have KE := hide (show Keep w w5 (· = g2) from (((K2.out.nul (· = g2)).trans0 ((Keep.refl w2 Nul).drew)).trans0 K4.out).trans k5 fun _ _ e => e)
  have q1 : Rd w5 (w.heap.size ≤ ·) 1 (.slice A6 hd.srcs.length c6) hd.srcs.length (U32 hd.srcs) := ((P1.out.keep0 K34.out).keep k5 (fun i hi hp e => by have : w2.drew.heap.size ≤ i := hp; omega)).mono (fun k _ hk => Nat.le_trans hzd hk)
  have q2 : XR w5 (w.heap.size ≤ ·) (.slice A7 hd.exts.length c7) hd.exts := ((P2.out.keep0 K34.out).keep k5 (fun i hi hp e => by have : w2.drew.heap.size ≤ i := hp; omega)).mono (fun k _ hk => Nat.le_trans hzd hk)
  have hz3 := K3.out.size
  have q3 : Rd w5 (w.heap.size ≤ ·) 1 (.slice A8 m c8) m (B8 pay) := (O4.out.rdB.keep k5 (fun i hi hp e => by have : w3.heap.size ≤ i := hp; omega)).mono (fun k _ hk => Nat.le_trans hzd (Nat.le_trans hz3 hk))
  have Q1 := hide q1
  have Q2 := hide q2
  have Q3 := hide q3
  clear b5 k5 q1 q2 q3 z13 z14 z15 hHeld
  rcases HEV.out with ⟨hok, hev⟩ | ⟨hok, te, ve, hev⟩
  all_goals
    subst hev
    have HOK := hide hok
    clear hok
    go_wp2_with fail
    go_ret
    obtain rfl := HM.out
    refine ⟨_, hd, pay, _, _, A8, c8, rfl, KE.out, B5.out, ⟨_, _, A8, c8, rfl, Q1.out, Q2.out, Q3.out⟩, HHS.out, ?_⟩
    have h1 := HRD.out
    rw [HOK.out] at h1
    simpa using h1
end Go.Proofs.YtdmnflngafbobaaDoor
