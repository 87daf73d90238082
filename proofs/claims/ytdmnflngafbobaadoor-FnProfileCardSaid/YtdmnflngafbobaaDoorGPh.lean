/-
  The thin package's ParseHeader: its closure. Conditions: those that stand in each theorem.
-/
import Derived.Test.YtdmnflngafbobaaDoorGPun
import Derived.Test.YtdmnflngafbobaaDoorGUz
import Derived.Test.YtdmnflngafbobaaDoorLast
import Derived.Test.YtdmnflngafbobaaDoorTry
namespace Go.Proofs.YtdmnflngafbobaaDoor
open Go.RowKit
set_option linter.unusedVariables false
set_option linter.unusedSimpArgs false
set_option maxRecDepth 100000

/-- What ParseHeader's closure leaves. -/
def PhPost (bs : List Int) (w : World) (g2 g3 : Nat) (e : Ending) (w' : World) : Prop :=
  ∃ (ok : Bool) (hd : Hd) (A1 : Option Addr) (n1 c1 : Nat) (A2 : Option Addr) (n2 c2 : Nat) (m : Int), e = .returned (.bool ok) ∧ Keep w w' (fun k => k = g2 ∨ k = g3) ∧ Blk w' g2 35 (hcells hd (.slice A1 n1 c1) (.slice A2 n2 c2)) ∧ Blk w' g3 3 #[.int .i64 m] ∧
    HV w' (w.heap.size ≤ ·) (.agg (hcells hd (.slice A1 n1 c1) (.slice A2 n2 c2))) hd ∧ Hs hd ∧ ((ok = true ∧ ∃ mm : Nat, m = mm ∧ readB bs = .good hd mm) ∨ (ok = false ∧ readB bs = .bad))

set_option maxHeartbeats 3200000 in
theorem parseh1 {p : Nat → Prop} {bs : List Int} {n c g1 g2 g3 : Nat} {A : Option Addr} (w : World) (hR : Rd w p 1 (.slice A n c) n (B8 bs)) (hI : IsB bs) (hn : n ≤ 2147483647) (h1 : Blk w g1 29 #[.slice A n c]) (h2 : Blk w g2 35 (hcells hd0 (.slice none 0 0) (.slice none 0 0))) (h3 : Blk w g3 3 #[.int .i64 0])
    (he : Errs w) (hs : HsSpec bs) (hu : UnSpec bs) :
    Calls Tryd.prog 70 #[.pointer (some ⟨g1, 0, none⟩), .pointer (some ⟨g2, 0, none⟩), .pointer (some ⟨g3, 0, none⟩)] w (PhPost bs w g2 g3) := by
  have hl : bs.length = n := by have := hR.len; rwa [B8_len] at this
  replace hR := hR.mono (q := (· < w.heap.size)) (fun k hk _ => hk)
  have HL := hide hl
  have HR := hide hR
  have HI := hide hI
  have HE := hide he
  have HS := hide hs
  have HU := hide hu
  have H1 := hide h1
  have H2 := hide h2
  have H3 := hide h3
  have lg1 := h1.lt
  have lg2 := h2.lt
  have lg3 := h3.lt
  have g23 : ¬ g2 = g3 := h2.ne_ h3 (by decide)
  have g32 : ¬ g3 = g2 := fun e => g23 e.symm
  clear hl hR hI he hs hu h1 h2 h3
  go_enter Tryd.func70, Tryd.ntmps70
  go_upto_region 2 with fail
  generalize hwa : World.alloc w _ = wa
  have BX := hide (show BL wa w.heap.size 108 (uc hd0 (.slice none 0 0) (.slice none 0 0) []) by subst hwa; exact Blk.new w _ _)
  have KA := hide (show Keep w wa Nul by subst hwa; exact (Keep.refl w Nul).alloc _)
  have hza : wa.heap.size = w.heap.size + 1 := by subst hwa; simp [World.size_alloc]
  have HZA := hide hza
  clear hwa hza
  have c1 := (H1.out.keep KA.out id).cell 0 (v := .slice A n c) rfl
  have hC := hide (clone_b wa (HR.out.keep0 KA.out) (B8_one _) (by omega))
  go_wp2_with fail
  refine (hC.out).mono ?_
  rintro e w1 ⟨v1, rfl, o1, k1, -⟩
  obtain ⟨A1, c1', rfl⟩ := o1.rd.shape
  have O1 := hide o1
  have K1 := hide (KA.out.trans0 k1)
  have BX1 := hide (BX.out.keep k1 id)
  have hz1 := k1.size
  have hat := o1.at_
  clear o1 k1 c1
  have hpx : ∀ i, (Value.slice A1 n c1').ownBlock = some i → i ≠ w.heap.size := fun i hi e => by have := (hat i hi).1; have := HZA.out; omega
  have hgl : ¬ Glob w.heap.size := fun hg => by have := HE.out.lt hg; omega
  have hPW := hide (HU.out _ w1 n c1' w.heap.size A1 _ _ O1.out.rd hn (fun i hi => ⟨hpx i hi, (hat i hi).2.1⟩) BX1.out (HE.out.keep0 K1.out) hgl)
  clear hpx hgl
  go_wp2_with fail
  refine (hPW.out).mono ?_
  rintro e w2 hpost
  obtain ⟨ev, hd, m, ok, rfl, hhs, hup, k2, hev, hrd⟩ : ∃ (ev : Value) (hd : Hd) (m : Int) (ok : Bool), e = .returned (.tuple #[.int .i64 m, ev]) ∧ Hs hd ∧ UH w2 (fun k => w1.heap.size ≤ k ∨ (Value.slice A1 n c1').ownBlock = some k) w.heap.size 108 [] hd ∧ Keep w1 w2 (· = w.heap.size) ∧ ((ok = true ∧ ev = Value.nilIface) ∨ (ok = false ∧ ∃ te ve, ev = .iface te ve)) ∧ ((ok = true ∧ ∃ mm : Nat, m = mm ∧ readB bs = .good hd mm) ∨ (ok = false ∧ readB bs = .bad)) := by
    rcases hpost with ⟨h, m, q1, q2, q3, q4⟩ | ⟨q1, m, te, ve, h, q2, q3, q4, q5, q6⟩
    · exact ⟨_, h, m, true, q2, (HS.out _ _ q1).1, q3, q4, .inl ⟨rfl, rfl⟩, .inl ⟨rfl, m, rfl, q1⟩⟩
    · exact ⟨_, h, m, false, q2, ⟨by omega, by rw [q4]; simp, fun x hx => by rw [q4] at hx; cases hx⟩, q5, q6, .inr ⟨rfl, te, ve, rfl⟩, .inr ⟨rfl, q1⟩⟩
  obtain ⟨sv, xv, hB, r1, r2⟩ := hup
  have HHS := hide hhs
  have HEV := hide hev
  have HRD := hide hrd
  have R1 := hide r1
  have R2 := hide r2
  have K2 := hide (K1.out.trans k2 (fun i hi e => by omega))
  have B2 := hide hB
  have hz2 := k2.size
  clear hpost hhs hev hrd r1 r2 k2 hB hat
  have BPre := hide (show Pre w2 w.heap.size (rcells hd sv xv 0) from B2.out.pre)
  have hPl := hide (iplain_walk w2 BPre.out R1.out R2.out HHS.out.2.1 HHS.out.1 HHS.out.2.2)
  go_wp2_with fail
  refine (hPl.out).mono ?_
  rintro e w3 ⟨k3, sv', xv', rfl, hv3⟩
  have K3 := hide k3
  obtain ⟨p1, p2⟩ := hv3.parts
  obtain ⟨A6, c6, rfl⟩ := p1.shape
  obtain ⟨A7, c7, rfl⟩ := p2.shape
  have P1 := hide p1
  have P2 := hide p2
  have hz3 := k3.size
  have H2w := hide ((H2.out.keep K2.out id).keep k3 id)
  have H3w := hide ((H3.out.keep K2.out id).keep k3 id)
  clear k3 hv3 p1 p2 hPl
  rcases HEV.out with ⟨hok, hev⟩ | ⟨hok, te, ve, hev⟩
  all_goals
    subst hev
    have HOK := hide hok
    clear hok
    unfold hcells
    go_wp2_with (refine wpList_stRow rfl _ _ rfl rfl rfl H2w.out (by kernel_rfl) rfl (by simp [Value.oneCell']) ?_; intro w5 b5 k5; have B5 := hide b5; have K5 := hide k5; have H3x := hide (H3w.out.keep k5 g32); have y3 := H3x.out.cell 0 (v := .int .i64 0) rfl; have f3 := H3x.out.free 0; have l3 := H3x.out.lt; clear b5 k5)
    go_ret
    have B5h := hide (show Blk w5 g2 35 (hcells hd (.slice A6 hd.srcs.length c6) (.slice A7 hd.exts.length c7)) from B5.out)
    have kst : Keep w5 (w5.setCell ⟨g3, 0, none⟩ (.int .i64 m)) (· = g3) := Keep.set1 _ _ _ _
    have hl5 : w2.heap.size ≤ w3.heap.size := hz3
    have hzz := K2.out.size
    have q1 := (P1.out.keep K5.out (fun i hi (hp : w2.heap.size ≤ i) e => by omega)).keep kst (fun i hi (hp : w2.heap.size ≤ i) e => by omega)
    have q2 := (P2.out.keep K5.out (fun i hi (hp : w2.heap.size ≤ i) e => by omega)).keep kst (fun i hi (hp : w2.heap.size ≤ i) e => by omega)
    refine ⟨_, hd, _, _, _, _, _, _, m, rfl, ?_, B5h.out.keep kst g23, H3x.out.set_ 0 _, ⟨_, _, rfl, q1.mono (fun i _ hp => ?_), q2.mono (fun i _ hp => ?_)⟩, HHS.out, ?_⟩
    · exact (((K2.out.trans0 K3.out).nul (fun k => k = g2 ∨ k = g3)).trans (K5.out.mono (S' := fun k => k = g2 ∨ k = g3) (fun i _ e => .inl e)) (fun _ _ e => e)).setg 0 (fun _ => .inr rfl) _
    · have hp1 : w2.heap.size ≤ i := hp
      omega
    · have hp1 : w2.heap.size ≤ i := hp
      omega
    · have h1 := HRD.out
      rw [HOK.out] at h1
      simpa using h1
end Go.Proofs.YtdmnflngafbobaaDoor
namespace Go.Proofs.YtdmnflngafbobaaDoor
open Go.RowKit
set_option linter.unusedVariables false
set_option linter.unusedSimpArgs false
set_option maxRecDepth 100000

theorem step_stRow {P : Program} {w : World} {ops : Array Oper} {o : Oper} {a : Act} {K : Act → World → Prop} {Q : Exit → Act → World → Prop} {E : Prop} {ty t : TypeId} {p x : Operand} {g : Nat} {old cs : Array Value} (hgd : o.guard = none) (ho : o.op = .store ty p x) (hp : a.eval p = .pointer (some ⟨g, 0, none⟩)) (hx : a.eval x = .agg cs) (hb : Blk w g t old)
    (hi : (P.info? ty).map (·.size) = some cs.size) (hs : old.size = cs.size) (h1 : cs.all (·.oneCell') = true) (h : ∀ w', Blk w' g t cs → Keep w w' (· = g) → K (a.put o.dst undef) w') :
    if Region.wanted o (yielded ops a.tmps) = true then Oper.wp P o a w K Q else E := by
  have hw : Region.wanted o (yielded ops a.tmps) = true := by simp [Region.wanted, hgd]
  rw [if_pos hw]
  exact wp_stRow ho hp hx hb hi hs h1 h

/-- The world in which ParseHeader's closure is called. -/
def phW (w : World) (A : Option Addr) (n c : Nat) : World := ((w.alloc (.cells #[.slice A n c] 29)).alloc (.cells (hcells hd0 (.slice none 0 0) (.slice none 0 0)) 35)).alloc (.cells #[.int .i64 0] 3)
/-- What impl.try over ParseHeader's closure leaves. -/
theorem ph_try {p : Nat → Prop} {bs : List Int} {n c : Nat} {A : Option Addr} (w : World) (hR : Rd w p 1 (.slice A n c) n (B8 bs)) (hI : IsB bs) (hn : n ≤ 2147483647) (he : Errs w) (hs : HsSpec bs) (hu : UnSpec bs) (ok : Bool) (hok : ok = true ↔ readB bs ≠ .bad) :
    Calls Tryd.prog 52 #[.func (.func 70) #[] #[.pointer (some ⟨w.heap.size, 0, none⟩), .pointer (some ⟨w.heap.size + 1, 0, none⟩), .pointer (some ⟨w.heap.size + 2, 0, none⟩)]] (phW w A n c) fun e w' =>
      e = .returned (.bool ok) ∧ Keep (phW w A n c) w' (fun k => k = w.heap.size + 1 ∨ k = w.heap.size + 2) ∧
      ∃ (hd : Hd) (A1 : Option Addr) (n1 c1 : Nat) (A2 : Option Addr) (n2 c2 : Nat) (m : Int), Blk w' (w.heap.size + 1) 35 (hcells hd (.slice A1 n1 c1) (.slice A2 n2 c2)) ∧ Blk w' (w.heap.size + 2) 3 #[.int .i64 m] ∧ HV w' (w.heap.size + 4 ≤ ·) (.agg (hcells hd (.slice A1 n1 c1) (.slice A2 n2 c2))) hd ∧ Hs hd ∧ (ok = true → ∃ mm : Nat, m = mm ∧ readB bs = .good hd mm) := by
  have kW : Keep w (phW w A n c) Nul := (((Keep.refl w _).alloc _).alloc _).alloc _
  have hzW : (phW w A n c).heap.size = w.heap.size + 3 := by unfold phW; simp only [World.size_alloc]
  have b1 : Blk (phW w A n c) w.heap.size 29 #[.slice A n c] := ((Blk.new w 29 #[.slice A n c]).alloc _).alloc _
  have b2 : Blk (phW w A n c) (w.heap.size + 1) 35 (hcells hd0 (.slice none 0 0) (.slice none 0 0)) := (Blk.new' (by simp only [World.size_alloc])).alloc _
  have b3 : Blk (phW w A n c) (w.heap.size + 2) 3 #[.int .i64 0] := Blk.new' (by simp only [World.size_alloc])
  refine (try_keep 70 _ ok (fun w' => Keep (phW w A n c) w' (fun k => k = w.heap.size + 1 ∨ k = w.heap.size + 2) ∧
      ∃ (hd : Hd) (A1 : Option Addr) (n1 c1 : Nat) (A2 : Option Addr) (n2 c2 : Nat) (m : Int), Blk w' (w.heap.size + 1) 35 (hcells hd (.slice A1 n1 c1) (.slice A2 n2 c2)) ∧ Blk w' (w.heap.size + 2) 3 #[.int .i64 m] ∧ HV w' (w.heap.size + 4 ≤ ·) (.agg (hcells hd (.slice A1 n1 c1) (.slice A2 n2 c2))) hd ∧ Hs hd ∧ (ok = true → ∃ mm : Nat, m = mm ∧ readB bs = .good hd mm)) _ (fun _ => by kernel_rfl) ?_ ?_)
  · rintro w1 w2 ⟨h0, hd, A1, n1, c1, A2, n2, c2, m, h1, h2, h3, h4, h5⟩ k
    rw [hzW] at k
    exact ⟨h0.trans k (fun i hi e => by omega), hd, _, _, _, _, _, _, m, h1.keep k (by omega), h2.keep k (by omega), h3.keep k (fun i hi (hp : w.heap.size + 4 ≤ i) e => by omega), h4, h5⟩
  · have kb : Keep w ((phW w A n c).alloc (.cells #[.bool false] 4)) Nul := kW.alloc _
    refine (parseh1 (g1 := w.heap.size) (g2 := w.heap.size + 1) (g3 := w.heap.size + 2) _ (hR.keep0 kb) hI hn (b1.alloc _) (b2.alloc _) (b3.alloc _) (he.keep0 kb) hs hu).mono ?_
    rintro e w' ⟨ok', hd, A1, n1, c1, A2, n2, c2, m, rfl, hk, h1, h2, h3, h4, hr⟩
    simp only [World.size_alloc, hzW] at h3
    have hoo : ok' = ok := by
      rcases hr with ⟨rfl, mm, _, h⟩ | ⟨rfl, h⟩
      · exact (hok.2 (by rw [h]; exact fun e => by cases e)).symm
      · cases ok
        · rfl
        · exact absurd h (hok.1 rfl)
    subst hoo
    have hbn : Blk w' (phW w A n c).heap.size 4 #[.bool false] := (Blk.new (phW w A n c) 4 #[.bool false]).keep hk (by rw [hzW]; omega)
    refine ⟨rfl, hbn, ((Keep.refl (phW w A n c) (fun k => k = w.heap.size + 1 ∨ k = w.heap.size + 2)).alloc _).trans hk (fun _ _ e => e), hd, _, _, _, _, _, _, m, h1, h2, h3, h4, fun h => ?_⟩
    rcases hr with ⟨_, mm, q1, q2⟩ | ⟨h', _⟩
    · exact ⟨mm, q1, q2⟩
    · rw [h] at h'; cases h'

set_option maxHeartbeats 1600000 in
/-- impl.ParseHeader of bytes that are no header. -/
theorem ph_bad {p : Nat → Prop} {bs : List Int} {n c : Nat} {A : Option Addr} (w : World) (hR : Rd w p 1 (.slice A n c) n (B8 bs)) (hI : IsB bs) (hn : n ≤ 2147483647) (he : Errs w) (hs : HsSpec bs) (hu : UnSpec bs) (hg : readB bs = .bad) :
    Calls Tryd.prog 31 #[.slice A n c] w fun e w' => Keep w w' Nul ∧ e = .returned (.tuple #[.agg (hcells hd0 (.slice none 0 0) (.slice none 0 0)), .int .i64 0, .bool false]) := by
  have hT := hide (ph_try w hR hI hn he hs hu false ⟨fun h => (by cases h), fun h => absurd hg h⟩)
  clear hR hI he hs hu hg
  go_enter Tryd.func31, Tryd.ntmps31
  go_wp2_with fail
  refine Calls.mono (show Calls _ _ _ _ _ from hT.out) ?_
  rintro e w1 ⟨rfl, hk, hd', A1, n1, c1, A2, n2, c2, m, hb, hb3, -, -, -⟩
  have HB := hide hb
  have HB3 := hide hb3
  have HK := hide hk
  clear hb hk hb3
  go_wp2_with (refine wpList_stRow rfl _ _ rfl rfl rfl HB.out (by kernel_rfl) rfl (by simp [Value.oneCell']) ?_; intro w2 hb2 hk2; have HB2 := hide hb2; have HK2 := hide hk2; have HC3 := hide (HB3.out.keep hk2 (by omega)); have y3 := HC3.out.cell 0 (v := .int .i64 m) rfl; have f3 := HC3.out.free 0; have l3 := HC3.out.lt; clear hb2 hk2)
  generalize hw3 : World.setCell w2 _ _ = w3
  have B3 := hide (show Blk w3 (w.heap.size + 1) 35 (hcells hd0 (.slice none 0 0) (.slice none 0 0)) by subst hw3; exact HB2.out.far (by simp) _)
  have C3 := hide (show Blk w3 (w.heap.size + 2) 3 #[.int .i64 0] by subst hw3; exact HC3.out.set_ 0 _)
  have KF := hide (show Keep w w3 Nul by
    subst hw3
    have kW : Keep w (phW w A n c) Nul := (((Keep.refl w _).alloc _).alloc _).alloc _
    exact (((kW.trans HK.out (fun i hi e => by omega)).trans HK2.out (fun i hi e => by omega)).set (p := ⟨w.heap.size + 2, 0, none⟩) (fun (h : w.heap.size + 2 < w.heap.size) => by omega) _))
  clear hw3
  obtain ⟨y0, y1, y2, y3', y4, y5, y6, y7, y8, y9, y10, y11⟩ := hc12 B3.out
  have z3 := C3.out.cell 0 (v := .int .i64 0) rfl
  refine bodyPost_ret (v := .tuple #[.agg (hcells hd0 (.slice none 0 0) (.slice none 0 0)), .int .i64 0, .bool false]) (by unfold hcells hd0 at *; simp [results, Tryd.results31, go_sem, y0, y1, y2, y3', y4, y5, y6, y7, y8, y9, y10, y11, z3]) rfl ?_
  exact ⟨KF.out, rfl⟩

set_option maxHeartbeats 1600000 in
/-- impl.ParseHeader of bytes that are a header. -/
theorem ph_good {p : Nat → Prop} {bs : List Int} {n c : Nat} {A : Option Addr} {hd : Hd} {mm : Nat} (w : World) (hR : Rd w p 1 (.slice A n c) n (B8 bs)) (hI : IsB bs) (hn : n ≤ 2147483647) (he : Errs w) (hs : HsSpec bs) (hu : UnSpec bs) (hg : readB bs = .good hd mm) :
    Calls Tryd.prog 31 #[.slice A n c] w fun e w' => Keep w w' Nul ∧ Hs hd ∧ ∃ A1 n1 c1 A2 n2 c2, e = .returned (.tuple #[.agg (hcells hd (.slice A1 n1 c1) (.slice A2 n2 c2)), .int .i64 (mm : Int), .bool true]) ∧ HV w' (w.heap.size ≤ ·) (.agg (hcells hd (.slice A1 n1 c1) (.slice A2 n2 c2))) hd := by
  have hT := hide (ph_try w hR hI hn he hs hu true ⟨fun _ => (by rw [hg]; exact (fun e => by cases e)), fun _ => rfl⟩)
  have HG := hide hg
  clear hR hI he hs hu hg
  go_enter Tryd.func31, Tryd.ntmps31
  go_wp2_with fail
  refine Calls.mono (show Calls _ _ _ _ _ from hT.out) ?_
  rintro e w1 ⟨rfl, hk, hd', A1, n1, c1, A2, n2, c2, m, hb, hb3, hv, hhs, hr⟩
  obtain ⟨mm', rfl, he'⟩ := hr trivial
  rw [HG.out] at he'
  injection he' with e1 e2
  subst e1 e2
  have HB := hide hb
  have HB3 := hide hb3
  have HK := hide hk
  have HV1 := hide hv
  have HHS := hide hhs
  obtain ⟨x0, x1, x2, x3, x4, x5, x6, x7, x8, x9, x10, x11⟩ := hc12 hb
  have z3 := hb3.cell 0 (v := .int .i64 (mm : Int)) rfl
  clear hb hb3 hk hv hhs hr
  go_upto_region 4 with fail
  refine wp_region_noPanic ?_
  refine region_last' (S := fun w' => w'.cell? ⟨w.heap.size + 2, 0, none⟩ = some (.int .i64 (mm : Int)) ∧ w'.cell? ⟨w.heap.size + 1, 0, none⟩ = some (.int .u8 hd.v) ∧ w'.cell? ⟨w.heap.size + 1, 1, none⟩ = some (.bool hd.pad) ∧ w'.cell? ⟨w.heap.size + 1, 2, none⟩ = some (.bool hd.ext) ∧ w'.cell? ⟨w.heap.size + 1, 3, none⟩ = some (.bool hd.mark) ∧ w'.cell? ⟨w.heap.size + 1, 4, none⟩ = some (.int .u8 hd.ty) ∧ w'.cell? ⟨w.heap.size + 1, 5, none⟩ = some (.int .u16 hd.seq) ∧ w'.cell? ⟨w.heap.size + 1, 6, none⟩ = some (.int .u32 hd.time) ∧ w'.cell? ⟨w.heap.size + 1, 7, none⟩ = some (.int .u32 hd.ssrc) ∧ w'.cell? ⟨w.heap.size + 1, 8, none⟩ = some (.slice A1 n1 c1) ∧ w'.cell? ⟨w.heap.size + 1, 9, none⟩ = some (.int .u16 hd.prof) ∧ w'.cell? ⟨w.heap.size + 1, 10, none⟩ = some (.slice A2 n2 c2) ∧ w'.cell? ⟨w.heap.size + 1, 11, none⟩ = some (.int .u8 hd.padn)) (by kernel_rfl) (by kernel_rfl) (by simp only [List.dropLast_cons_cons, List.dropLast_singleton]; rfl) (by simp only [List.getLast?_cons_cons, List.getLast?_singleton]; rfl) (⟨z3, x0, x1, x2, x3, x4, x5, x6, x7, x8, x9, x10, x11⟩) (fun hHeld => ?_)
  simp only [List.length_cons, List.length_nil, Nat.reduceAdd, Nat.zero_add]
  refine wpAnyH_take (i := 0) (v := ?_) (by simp only [List.getElem?_toArray, List.getElem?_cons_succ, List.getElem?_cons_zero]; rfl) (by kernel_rfl) (by kernel_rfl) (by kernel_rfl) (fun _ _ _ h => h) (Or.inl ⟨by rfl, ?_⟩) (by assumption) ?_
  rotate_left 1
  · (intro w hSw; (try dsimp only at hSw); go_simp; (try with_reducible rfl))
  try simp only [Act.put, List.setIfInBounds_toArray, List.set_cons_zero, List.set_cons_succ]
  refine wpAnyH_take (i := 1) (v := ?_) (by simp only [List.getElem?_toArray, List.getElem?_cons_succ, List.getElem?_cons_zero]; rfl) (by kernel_rfl) (by kernel_rfl) (by kernel_rfl) (fun _ _ _ h => h) (Or.inl ⟨by rfl, ?_⟩) (by assumption) ?_
  rotate_left 1
  · (intro w hSw; (try dsimp only at hSw); go_simp; (try with_reducible rfl))
  try simp only [Act.put, List.setIfInBounds_toArray, List.set_cons_zero, List.set_cons_succ]
  refine wpAnyH_ready (rs := [2]) (by kernel_rfl) (by simp) ?_
  refine AllReadyH.cons (by simp only [List.getElem?_toArray, List.getElem?_cons_succ, List.getElem?_cons_zero]; rfl) (fun K hK => ?_) AllReadyH.nil
  refine step_stRow rfl rfl rfl rfl (show Blk w1.drew (w.heap.size + 1) 35 _ from HB.out.drew) (by kernel_rfl) rfl (by simp [Value.oneCell']) ?_
  intro w2 hb2 hk2
  have B2 := hide (show Blk w2 (w.heap.size + 1) 35 (hcells hd (.slice A1 n1 c1) (.slice A2 n2 c2)) from hb2)
  have C2 := hide (HB3.out.drew.keep hk2 (by omega))
  have K2 := hide hk2
  obtain ⟨y0, y1, y2, y3, y4, y5, y6, y7, y8, y9, y10, y11⟩ := hc12 B2.out
  have v3 := C2.out.cell 0 (v := .int .i64 (mm : Int)) rfl
  have f3 := C2.out.free 0
  have l3 := C2.out.lt
  refine hK.out _ _ (⟨v3, y0, y1, y2, y3, y4, y5, y6, y7, y8, y9, y10, y11⟩) (fun hHeld => ?_)
  clear hK K
  try simp only [Act.put, List.setIfInBounds_toArray, List.set_cons_zero, List.set_cons_succ]
  refine wpAnyH_ready (rs := [3]) (by kernel_rfl) (by simp) ?_
  refine AllReadyH.cons (by simp only [List.getElem?_toArray, List.getElem?_cons_succ, List.getElem?_cons_zero]; rfl) (fun K hK => ?_) AllReadyH.nil
  go_simp
  have B3 := hide (show Blk (w2.setCell ⟨w.heap.size + 2, 0, none⟩ (.int .i64 (mm : Int))) (w.heap.size + 1) 35 (hcells hd (.slice A1 n1 c1) (.slice A2 n2 c2)) from B2.out.far (by simp) _)
  have C3 := hide (show Blk (w2.setCell ⟨w.heap.size + 2, 0, none⟩ (.int .i64 (mm : Int))) (w.heap.size + 2) 3 #[.int .i64 (mm : Int)] from C2.out.set_ 0 _)
  obtain ⟨u0, u1, u2, u3, u4, u5, u6, u7, u8, u9, u10, u11⟩ := hc12 B3.out
  have t3 := C3.out.cell 0 (v := .int .i64 (mm : Int)) rfl
  refine hK.out _ _ (⟨t3, u0, u1, u2, u3, u4, u5, u6, u7, u8, u9, u10, u11⟩) (fun hHeld => ?_)
  clear hK K
  try simp only [Act.put, List.setIfInBounds_toArray, List.set_cons_zero, List.set_cons_succ]
  refine wpAnyH_done (by kernel_rfl) ?_ _
  intro K hK
  have kst : Keep w2 (w2.setCell ⟨w.heap.size + 2, 0, none⟩ (.int .i64 (mm : Int))) (· = w.heap.size + 2) := Keep.set1 _ _ _ _
  have kW : Keep w (phW w A n c) Nul := (((Keep.refl w _).alloc _).alloc _).alloc _
  have KF := hide (((kW.trans HK.out (fun i hi e => by omega)).drew.trans K2.out (fun i hi e => by omega)).trans kst (fun i hi e => by omega))
  have HV3 := hide (((HV1.out.keep0 ((Keep.refl w1 Nul).drew)).keep K2.out (fun i hi (hp : w.heap.size + 4 ≤ i) e => by omega)).keep kst (fun i hi (hp : w.heap.size + 4 ≤ i) e => by omega))
  go_simp
  refine hK _ _ (NoPanic.normal ?_)
  clear hK K
  go_wp2_with fail
  refine bodyPost_ret (v := .tuple #[.agg (hcells hd (.slice A1 n1 c1) (.slice A2 n2 c2)), .int .i64 (mm : Int), .bool true]) (by unfold hcells; simp [results, Tryd.results31, go_sem, u0, u1, u2, u3, u4, u5, u6, u7, u8, u9, u10, u11, t3]) rfl ?_
  exact ⟨KF.out, HHS.out, _, _, _, _, _, _, rfl, HV3.out.mono (fun k _ (hk : w.heap.size + 4 ≤ k) => by omega)⟩
end Go.Proofs.YtdmnflngafbobaaDoor
