/-
  The law FnProfile. Conditions: those that stand in each theorem.
-/
import Derived.Test.YtdmnflngafbobaaDoorFpr7
import Derived.Test.YtdmnflngafbobaaDoorFpr8
import Derived.Test.YtdmnflngafbobaaDoorFnHeaderWritten
import Derived.Test.YtdmnflngafbobaaDoorGPr
import Derived.Deep.DeepCutAuto
namespace Go.Proofs.YtdmnflngafbobaaDoor
open Go.RowKit
set_option linter.unusedVariables false
set_option linter.unusedSimpArgs false
set_option maxRecDepth 100000

theorem xsb_count (prof : Int) : ∀ xs : List Ex, xs.length ≤ (xsb prof xs).length
  | [] => Nat.zero_le _
  | x :: xs => by
    have ih := xsb_count prof xs
    have e : xsb prof (x :: xs) = xb prof x ++ xsb prof xs := by simp [xsb]
    rw [e, List.length_append, List.length_cons]
    have : 1 ≤ (xb prof x).length := by unfold xb; split <;> simp
    omega
theorem exts_count {hd : Hd} (hg : Good hd) : hd.exts.length ≤ 900000 := by
  cases he : hd.ext with
  | false => rw [hg.noExt he]; simp
  | true =>
    obtain ⟨e, h1, h2⟩ := hg.ext he
    unfold extsB at h1
    split at h1
    · cases h1
    · split at h1
      · unfold own1 at h1
        split at h1
        · rename_i hx
          rw [hx]; simp
        · cases h1
      · split at h1
        · injection h1 with h1
          have := xsb_count hd.prof hd.exts
          rw [← h1, List.length_append] at h2
          omega
        · cases h1

set_option maxHeartbeats 6400000 in
theorem fpr_law {p : Nat → Prop} {v u : Value} {hd : Hd} {s : St} (w : World) (hh : HV w p v hd) (hok : hd.Ok) (hst : StV w u s) (he : Errs w) (hhe : HErrs w) :
    Calls Tryd.prog 13 #[v, u] w fun e w' => e = .returned (.bool true) ∧ Below w.heap.size w w' := by
  obtain ⟨⟨A, n, c, rfl, hR⟩, hI, -, -⟩ := hst
  have hnl : n = s.data.length := by have := hR.len; rw [B8_len] at this; exact this.symm
  have HR := hide (hR.mono (q := (· < w.heap.size)) (fun k hk _ => hk))
  obtain ⟨sv, xv, rfl, h1, h2⟩ := hh.mono (q := (· < w.heap.size)) (fun k hk _ => hk)
  obtain ⟨A1, c1, rfl⟩ := h1.shape
  obtain ⟨A2, c2, rfl⟩ := h2.shape
  have HH := hide (show HV w (· < w.heap.size) (.agg (hcells hd (.slice A1 hd.srcs.length c1) (.slice A2 hd.exts.length c2))) hd from ⟨_, _, rfl, h1, h2⟩)
  have HI := hide hI
  have HOK := hide hok
  have HE := hide he
  have HHE := hide hhe
  have HNL := hide hnl
  clear hh h1 h2 hR hI hok he hhe hnl
  have HC : hcells hd (.slice A1 hd.srcs.length c1) (.slice A2 hd.exts.length c2) = #[.int .u8 hd.v, .bool hd.pad, .bool hd.ext, .bool hd.mark, .int .u8 hd.ty, .int .u16 hd.seq, .int .u32 hd.time, .int .u32 hd.ssrc, .slice A1 hd.srcs.length c1, .int .u16 hd.prof, .slice A2 hd.exts.length c2, .int .u8 hd.padn] := rfl
  have HC2 : scells s.what s.id A n c s.prof = #[.int .i64 s.what, .int .u8 s.id, .slice A n c, .int .u16 s.prof] := rfl
  rw [HC, HC2]
  go_enter Tryd.func13, Tryd.ntmps13
  go_upto_region 1 with fail
  generalize hwa : World.alloc (World.alloc w _) _ = wa
  have BX := hide (show Blk wa w.heap.size 27 (hcells hd (.slice A1 hd.srcs.length c1) (.slice A2 hd.exts.length c2)) by subst hwa; exact (Blk.new w _ _).alloc _)
  obtain ⟨gs, hgs⟩ : ∃ gs, gs = w.heap.size + 1 := ⟨_, rfl⟩
  rw [← hgs]
  have BS := hide (show Blk wa gs 73 (scells s.what s.id A n c s.prof) by subst hwa hgs; exact Blk.new' (by simp only [World.size_alloc]))
  have KA := hide (show Keep w wa Nul by subst hwa; exact ((Keep.refl w Nul).alloc _).alloc _)
  have HVa := hide (HH.out.keep0 KA.out)
  have hF := hide (fits1 wa HVa.out)
  generalize hv0 : Value.agg _ = v0
  generalize hv1 : Value.agg _ = v1
  have HGS := hide hgs
  clear hwa HC HC2 hv0 hv1 hgs
  obtain ⟨x0, x1, x2, x3, x4, x5, x6, x7, x8, x9, x10, x11⟩ := hc12 BX.out
  go_wp2_with fail
  refine Calls.mono (show Calls _ _ #[.agg (hcells hd (.slice A1 hd.srcs.length c1) (.slice A2 hd.exts.length c2))] _ _ from hF.out) ?_
  rintro e w1 ⟨b, rfl, k1, hb⟩
  have HK1 := hide (KA.out.trans0 k1)
  have BX1 := hide (BX.out.keep k1 (fun e => e))
  have BS1 := hide (BS.out.keep k1 (fun e => e))
  clear k1 x0 x1 x2 x3 x4 x5 x6 x7 x8 x9 x10 x11
  cases b with
  | false =>
    go_wp2_with fail
    go_ret
    exact ⟨rfl, HK1.out.below0⟩
  | true =>
  obtain ⟨b1, b2, b3⟩ := hb rfl
  have HB3 := hide b3
  clear b3 hb
  have hZ := hide (zz5_walk (what := s.what) (id := s.id) (pr := s.prof) (A := A) (n := n) (c := c) w1)
  have s0 := BS1.out.cell 0 (v := .int .i64 s.what) rfl
  have s1 := BS1.out.cell 1 (v := .int .u8 s.id) rfl
  have s2 := BS1.out.cell 2 (v := .slice A n c) rfl
  have s3 := BS1.out.cell 3 (v := .int .u16 s.prof) rfl
  go_wp2_with fail
  refine Calls.mono (show Calls _ _ #[.agg (scells s.what s.id A n c s.prof)] _ _ from hZ.out) ?_
  rintro e w2 ⟨rfl, k2⟩
  have HK2 := hide (HK1.out.trans0 k2)
  have BX2 := hide (BX1.out.keep k2 (fun e => e))
  have BS2 := hide (BS1.out.keep k2 (fun e => e))
  clear k2 s0 s1 s2 s3 hZ
  generalize hdq : decide (n ≤ 2147483647) = dq
  cases dq with
  | false =>
    clear hdq
    go_wp2_with fail
    go_ret
    exact ⟨rfl, HK2.out.below0⟩
  | true =>
  have hn : n ≤ 2147483647 := of_decide_eq_true hdq
  clear hdq
  have HV2 := hide (HH.out.keep0 HK2.out)
  have hL := hide (legal_walk w2 HV2.out HOK.out b2)
  obtain ⟨x0, x1, x2, x3, x4, x5, x6, x7, x8, x9, x10, x11⟩ := hc12 BX2.out
  go_wp2_with fail
  refine Calls.mono (show Calls _ _ #[.agg (hcells hd (.slice A1 hd.srcs.length c1) (.slice A2 hd.exts.length c2))] _ _ from hL.out) ?_
  rintro e w3 ⟨k3, A9, n9, c9, rfl, -⟩
  have HK3 := hide (HK2.out.trans0 k3)
  have BX3 := hide (BX2.out.keep k3 (fun e => e))
  have BS3 := hide (BS2.out.keep k3 (fun e => e))
  clear k3 hL x0 x1 x2 x3 x4 x5 x6 x7 x8 x9 x10 x11
  cases hs : legalB hd with
  | none =>
    have hs' : (legalB hd).isSome = false := by rw [hs]; rfl
    clear hs
    go_wp2_with fail
    go_ret
    exact ⟨rfl, HK3.out.below0⟩
  | some bs =>
    obtain ⟨hg, rfl, hlen, hpd⟩ := legal_good HOK.out hs
    have hs' : (legalB hd).isSome = true := by rw [hs]; rfl
    have HG := hide hg
    clear hg hs hpd hlen
    clear hs'
    simp only [Option.isSome_some]
    have hOn := hide (once_walk w3 (HH.out.keep0 HK3.out) b2)
    go_upto_region 4 with fail
    go_cut [73] (fun cc wx => Keep w3 wx Nul ∧ (cc = .bool true ∨ (cc = .bool false ∧ OnceP hd.exts ∧ 1 ≤ n ∧ n ≤ 255 ∧ (s.prof = 48862 ∨ s.prof = 4096))))
    case first =>
      obtain ⟨x0, x1, x2, x3, x4, x5, x6, x7, x8, x9, x10, x11⟩ := hc12 BX3.out
      go_wp2_with fail
      refine Calls.mono (show Calls _ _ #[.agg (hcells hd (.slice A1 hd.srcs.length c1) (.slice A2 hd.exts.length c2))] _ _ from hOn.out) ?_
      rintro e w4 ⟨k4, hcase⟩
      have K4 := hide k4
      have s2 := (BS3.out.keep k4 (fun e => e)).cell 2 (v := .slice A n c) rfl
      have s3 := (BS3.out.keep k4 (fun e => e)).cell 3 (v := .int .u16 s.prof) rfl
      have z2 := (BX3.out.keep k4 (fun e => e)).cell 2 (v := .bool hd.ext) rfl
      have z9 := (BX3.out.keep k4 (fun e => e)).cell 9 (v := .int .u16 hd.prof) rfl
      clear k4 hOn x0 x1 x2 x3 x4 x5 x6 x7 x8 x9 x10 x11
      rcases hcase with ⟨rfl, ho⟩ | rfl
      · have HO := hide ho
        clear ho
        by_cases hn0 : n = 0
        · have a1 : ((n : Int) == 0) = true := by simp [hn0]
          subst hn0
          go_wp2_with fail
          go_meet
          exact ⟨K4.out, .inl rfl⟩
        · have a1 : ((n : Int) == 0) = false := by simp; omega
          by_cases h255 : (255 : Int) < (n : Int)
          · go_wp2_with fail
            go_meet
            exact ⟨K4.out, .inl rfl⟩
          · have hfin : ∀ (cc : Bool), (s.prof = 48862 ∨ s.prof = 4096) → Keep w3 w4 Nul ∧ (Value.bool cc = .bool true ∨ (Value.bool cc = .bool false ∧ OnceP hd.exts ∧ 1 ≤ n ∧ n ≤ 255 ∧ (s.prof = 48862 ∨ s.prof = 4096))) := fun cc hp => ⟨K4.out, by
              cases cc
              · exact .inr ⟨rfl, HO.out, by omega, by omega, hp⟩
              · exact .inl rfl⟩
            have HF := hide hfin
            clear hfin
            by_cases p1 : s.prof = 48862
            · have c1 : (s.prof != 48862) = false := by simp [p1]
              have HP1 := hide p1
              clear p1
              generalize hd.ext = ex at *
              cases ex
              · go_wp2_with fail
                go_meet
                exact HF.out _ (.inl HP1.out)
              · by_cases q1 : hd.prof = 48862
                · have d1 : (hd.prof != 48862) = false := by simp [q1]
                  clear q1
                  go_wp2_with fail
                  go_meet
                  exact HF.out _ (.inl HP1.out)
                · have d1 : (hd.prof != 48862) = true := by simpa using q1
                  clear q1
                  go_wp2_with fail
                  all_goals
                    go_meet
                    exact HF.out _ (.inl HP1.out)
            · have c1 : (s.prof != 48862) = true := by simpa using p1
              by_cases p2 : s.prof = 4096
              · have c2' : (s.prof != 4096) = false := by simp [p2]
                have HP1 := hide p2
                clear p1 p2
                generalize hd.ext = ex at *
                cases ex
                · go_wp2_with fail
                  go_meet
                  exact HF.out _ (.inr HP1.out)
                · by_cases q1 : hd.prof = 48862
                  · have d1 : (hd.prof != 48862) = false := by simp [q1]
                    clear q1
                    go_wp2_with fail
                    go_meet
                    exact HF.out _ (.inr HP1.out)
                  · have d1 : (hd.prof != 48862) = true := by simpa using q1
                    clear q1
                    go_wp2_with fail
                    all_goals
                      go_meet
                      exact HF.out _ (.inr HP1.out)
              · have c2' : (s.prof != 4096) = true := by simpa using p2
                clear p1 p2
                go_wp2_with fail
                go_meet
                exact ⟨K4.out, .inl rfl⟩
      · go_wp2_with fail
        go_meet
        exact ⟨K4.out, .inl rfl⟩
    case rest =>
    obtain ⟨w4, hw4⟩ : ∃ w4, w4 = wc := ⟨_, rfl⟩
    subst hw4
    obtain ⟨kc, hcc⟩ := hcut
    have K4 := hide (HK3.out.trans0 kc)
    have BX4 := hide (BX3.out.keep kc (fun e => e))
    have BS4 := hide (BS3.out.keep kc (fun e => e))
    clear kc
    rcases hcc with rfl | ⟨rfl, ho, hn1, hn255, hpp⟩
    · go_wp2_with fail
      go_ret
      exact ⟨rfl, K4.out.below0⟩
    · have HO := hide ho
      have HPP := hide hpp
      clear ho hpp
      have s0 := BS4.out.cell 0 (v := .int .i64 s.what) rfl
      have f0 := BS4.out.free 0
      have l0 := BS4.out.lt
      go_upto_region 7 with fail
      generalize hw5 : World.setCell w4 _ _ = w5
      have k5 : Keep w4 w5 (· = gs) := by subst hw5; exact Keep.set1 _ _ _ _
      have BS5 := hide (show Blk w5 gs 73 (scells 1 s.id A n c s.prof) by subst hw5; exact BS4.out.set_ 0 _)
      have K5 := hide (K4.out.trans k5 (fun i hi e => by have : i = gs := e; have := HGS.out; omega))
      have BX5 := hide (BX4.out.keep k5 (fun e => by have : w.heap.size = gs := e; have := HGS.out; omega))
      have HV5 := hide ((HH.out.keep0 K4.out).keep k5 (fun i hi (hp : i < w.heap.size) e => by have : i = gs := e; have := HGS.out; omega))
      have HR5 := hide ((HR.out.keep0 K4.out).keep k5 (fun i hi (hp : i < w.heap.size) e => by have : i = gs := e; have := HGS.out; omega))
      clear hw5 k5 s0 f0 l0
      have hx := exts_count HG.out
      refine part_use (fpr_p7 (s := { s with what := 1 }) w5 _ _ _ _ _ _ _ _ _ _ _ _ _ _ _ _ _ _ _ _ _ _ _ _ _ _ _ _ _ _ _ _ _ _ _ _ _ _ _ _ _ _ _ _ _ _ _ _ _ _ _ _ _ _ _ _ _ _ _ _ _ _ _ _ _ _ _ _ _ _ _ _ _ _ _ _ _ _ _ _ _ _ _ _ _ _ _ _ _ _ _ _ _ _ _ _ _ _ _ _ _ _ _ _ _ _ _ _ _ _ _ _ _ _ _ _ _ _ _ _ _ _ _ _ _ _ _ _ _ _ _ _ _ _ _ _ _ _ _ _ _ _ _ _ _ _ _ _ _ _ _ _ _ _ _ _ _ _ _ _ _ _ _ _ _ _ _ _ _ _ rfl ?_ BX5.out HV5.out BS5.out HR5.out HNL.out hx (by have := HG.out.srcs; omega) HB3.out (by have := HNL.out; show s.data.length ≤ _; omega) (HHE.out.keep0 K5.out)) rfl rfl (by assumption)
      intro w6 v75 v76 v77 v78 v79 v80 v81 v82 gr m1 d1 m2 d2 dd X1 X2 X k6 hbr hvr hrb
      exact fpr_p8 (s := { s with what := 1 }) (hd := hd) w6 _ _ _ _ _ _ _ _ _ _ _ _ _ _ _ _ _ _ _ _ _ _ _ _ _ _ _ _ _ _ _ _ _ _ _ _ _ _ _ _ _ _ _ _ _ _ _ _ _ _ _ _ _ _ _ _ _ _ _ _ _ _ _ _ _ _ _ _ _ _ _ _ _ _ _ _ _ _ _ _ _ _ _ _ _ _ _ _ _ _ _ _ _ _ _ _ _ _ _ _ _ _ _ _ _ _ _ _ _ _ _ _ _ _ _ _ _ _ _ _ _ _ _ _ _ _ _ _ _ _ _ _ _ _ _ _ _ _ _ _ _ _ _ _ _ _ _ _ _ _ _ _ _ _ _ _ _ _ _ _ _ _ _ _ _ _ _ _ rfl (BX5.out.keep k6 (fun e => e)) ((HV5.out.keep0 k6).mono (fun _ _ _ => trivial)) (BS5.out.keep k6 (fun e => e)) ((HR5.out.keep0 k6).mono (fun _ _ _ => trivial)) HNL.out HI.out hbr hvr hrb rfl HOK.out HO.out HG.out.noExt hx (by have := HG.out.srcs; omega) HB3.out (by have := HNL.out; show 1 ≤ s.data.length; omega) (by have := HNL.out; show s.data.length ≤ 255; omega) (HE.out.keep0 (K5.out.trans0 k6)) (K5.out.trans0 k6)
end Go.Proofs.YtdmnflngafbobaaDoor
