/-
  The law FnProfile, behind the run of its step. Conditions: those that stand in each theorem.
-/
import Derived.Test.YtdmnflngafbobaaDoorGSt
import Derived.Test.YtdmnflngafbobaaDoorGPr
import Derived.Test.YtdmnflngafbobaaDoorGGet
import Derived.Test.YtdmnflngafbobaaDoorWorks
namespace Go.Proofs.YtdmnflngafbobaaDoor
open Go.RowKit
set_option linter.unusedVariables false
set_option linter.unusedSimpArgs false
set_option maxRecDepth 100000

theorem fitsAll_take (pr : Int) (xs : List Ex) (k : Nat) (x : Ex) (h : xs[k]? = some x) (b : Bool) : ((b && fitsAll pr (xs.take k)) && fitsB pr x.id x.data.length) = (b && fitsAll pr (xs.take (k + 1))) := by
  rw [fitsAll_snoc pr xs k x h, Bool.and_assoc]

set_option maxHeartbeats 3200000 in
theorem fpr_p8 {hd h' : Hd} {s : St} {gh gs gr n c n1 c1 n2 c2 m1 d1 m2 d2 d : Nat} {A A1 A2 X1 X2 X : Option Addr} {w0 : World} (w : World) (u0 u1 u4 u5 u6 u9 u10 u11 u12 u13 u14 u15 u16 u17 u18 u19 u20 u21 u22 u23 u24 u25 u26 u27 u28 u29 u30 u31 u32 u33 u34 u35 u36 u37 u38 u39 u40 u41 u42 u43 u44 u45 u46 u47 u48 u49 u50 u51 u52 u53 u54 u55 u56 u57 u58 u59 u60 u61 u62 u63 u64 u65 u66 u67 u68 u69 u70 u71 u72 u73 u74 u75 u76 u77 u78 u79 u80 u81 u82 u83 u84 u85 u86 u87 u88 u89 u90 u91 u92 u93 u94 u95 u96 u97 u98 u99 u100 u101 u102 u103 u104 u105 u106 u107 u108 u109 u110 u111 u112 u113 u114 u115 u116 u117 u118 u119 u120 u121 u122 u123 u124 u125 u126 u127 u128 u129 u130 u131 u132 u133 u134 u135 u136 u137 u138 u139 u140 u141 u142 u143 u144 u145 u146 u147 u148 u149 u150 u151 u152 u153 u154 u155 u156 u157 u158 u159 u160 u161 u162 u163 u164 u165 u166 u167 u168 u169 u170 u171 : Value) (hw1 : s.what = 1)
    (hH : Blk w gh 27 (hcells hd (.slice A1 n1 c1) (.slice A2 n2 c2))) (hV : HV w (fun _ => True) (.agg (hcells hd (.slice A1 n1 c1) (.slice A2 n2 c2))) hd) (hS : Blk w gs 73 (scells s.what s.id A n c s.prof)) (hR : Rd w (fun _ => True) 1 (.slice A n c) n (B8 s.data)) (hnl : n = s.data.length) (hI : IsB s.data)
    (hB : Blk w gr 35 (hcells h' (.slice X1 m1 d1) (.slice X2 m2 d2))) (hV' : HV w (fun _ => True) (.agg (hcells h' (.slice X1 m1 d1) (.slice X2 m2 d2))) h') (hb : Rd w (fun _ => True) 1 (.slice X 1 d) 1 [.bool (setP hd s.id s.data s.prof).isSome]) (hh : h' = (setP hd s.id s.data s.prof).getD hd)
    (hok : hd.Ok) (ho : OnceP hd.exts) (hne : hd.ext = false → hd.exts = []) (hx : hd.exts.length ≤ 900000) (hs1 : hd.srcs.length ≤ 2147483647) (hdn : ∀ x ∈ hd.exts, x.data.length ≤ 2147483647) (hd1 : 1 ≤ s.data.length) (hd2 : s.data.length ≤ 255) (he : Errs w) (hK0 : Keep w0 w Nul) :
    (yOf (fromR Tryd.f13 7)).wp Tryd.prog (bodyPost Tryd.prog Tryd.f13 (fun e w' => e = .returned (.bool true) ∧ Below w0.heap.size w0 w')) ⟨List.toArray (u0 :: u1 :: .pointer (some ⟨gh, 0, none⟩) :: .pointer (some ⟨gs, 0, none⟩) :: u4 :: u5 :: u6 :: .pointer (some ⟨gr, 0, none⟩) :: .slice X 1 d :: u9 :: u10 :: u11 :: u12 :: u13 :: u14 :: u15 :: u16 :: u17 :: u18 :: u19 :: u20 :: u21 :: u22 :: u23 :: u24 :: u25 :: u26 :: u27 :: u28 :: u29 :: u30 :: u31 :: u32 :: u33 :: u34 :: u35 :: u36 :: u37 :: u38 :: u39 :: u40 :: u41 :: u42 :: u43 :: u44 :: u45 :: u46 :: u47 :: u48 :: u49 :: u50 :: u51 :: u52 :: u53 :: u54 :: u55 :: u56 :: u57 :: u58 :: u59 :: u60 :: u61 :: u62 :: u63 :: u64 :: u65 :: u66 :: u67 :: u68 :: u69 :: u70 :: u71 :: u72 :: u73 :: u74 :: u75 :: u76 :: u77 :: u78 :: u79 :: u80 :: u81 :: u82 :: u83 :: u84 :: u85 :: u86 :: u87 :: u88 :: u89 :: u90 :: u91 :: u92 :: u93 :: u94 :: u95 :: u96 :: u97 :: u98 :: u99 :: u100 :: u101 :: u102 :: u103 :: u104 :: u105 :: u106 :: u107 :: u108 :: u109 :: u110 :: u111 :: u112 :: u113 :: u114 :: u115 :: u116 :: u117 :: u118 :: u119 :: u120 :: u121 :: u122 :: u123 :: u124 :: u125 :: u126 :: u127 :: u128 :: u129 :: u130 :: u131 :: u132 :: u133 :: u134 :: u135 :: u136 :: u137 :: u138 :: u139 :: u140 :: u141 :: u142 :: u143 :: u144 :: u145 :: u146 :: u147 :: u148 :: u149 :: u150 :: u151 :: u152 :: u153 :: u154 :: u155 :: u156 :: u157 :: u158 :: u159 :: u160 :: u161 :: u162 :: u163 :: u164 :: u165 :: u166 :: u167 :: u168 :: u169 :: u170 :: u171 :: []), []⟩ w := by
  have BH := hide hH
  have HV0 := hide hV
  have BS := hide hS
  have HR := hide hR
  have HNL := hide hnl
  have HI := hide hI
  have BR := hide hB
  have HV1 := hide hV'
  have HH := hide hh
  have HOK := hide hok
  have HO := hide ho
  have HNE := hide hne
  have HDN := hide hdn
  have HE := hide he
  have HK0 := hide hK0
  obtain ⟨bX, oX, dX, hv, -, -, -, -, hcX⟩ := hb.lit (by decide)
  injection hv with e1 _ e3
  subst e1 e3
  have cX := hcX 0 _ rfl
  rw [Nat.add_zero] at cX
  have hW := hide (works_walk w he)
  clear hH hV hS hR hnl hI hB hV' hb hh hok ho hne hdn he hK0 hcX hw1
  generalize hc : fromR Tryd.f13 7 = c0
  conv at hc => lhs; whnf
  subst hc
  dsimp only [yOf]
  cases hr : setP hd s.id s.data s.prof with
  | none =>
    rw [hr] at cX HH
    have HPN := hide (prof_none hd1 hr)
    clear hr
    go_wp2_with fail
    refine (hW.out).mono ?_
    rintro e w1 ⟨rfl, k1⟩
    have K1 := hide k1
    have BH1 := hide (BH.out.keep k1 (fun e => e))
    have BS1 := hide (BS.out.keep k1 (fun e => e))
    have HX1 := hide (HV0.out.parts.2.keep0 k1)
    have cX1 : w1.cell? ⟨bX, oX, none⟩ = some (.bool false) := k1.cell (fun e => e) cX
    clear k1 hW cX
    have s1 := BS1.out.cell 1 (v := .int .u8 s.id) rfl
    have s2 := BS1.out.cell 2 (v := .slice A n c) rfl
    have s3 := BS1.out.cell 3 (v := .int .u16 s.prof) rfl
    have hF := hide (fits_walk w1 s.prof s.id A n c)
    have x10 := BH1.out.cell 10 (v := .slice A2 n2 c2) rfl
    go_wp2_with fail
    refine (hF.out).mono ?_
    rintro e w2 ⟨rfl, rfl⟩
    have hn2 : n2 = hd.exts.length := by
      obtain ⟨_, _, e⟩ := HX1.out.shape
      injection e
    subst hn2
    generalize hfb : fitsB s.prof s.id n = fb
    have HFB := hide hfb
    clear hfb
    go_wp2_with fail
    go_loopw [104, 9] (fun s104 s9 wr => ∃ k : Nat, k ≤ hd.exts.length ∧ s104 = .int .i64 (k : Int) ∧ s9 = .bool (fb && fitsAll s.prof (hd.exts.take k)) ∧ Keep w1 wr Nul) (fun s104 _ _ => hd.exts.length - (intOf s104).toNat)
    case atStart => exact ⟨0, Nat.zero_le _, rfl, by simp [fitsAll], Keep.refl _ _⟩
    case round =>
      obtain ⟨k, hk, rfl, rfl, hK⟩ := hrel
      have KK := hide hK
      have HXr := hide (HX1.out.keep0 hK)
      have BSr := hide (BS1.out.keep hK (fun e => e))
      clear hK
      by_cases hlt : k < hd.exts.length
      · have hxk : hd.exts[k]? = some hd.exts[k] := List.getElem?_eq_getElem _
        obtain ⟨b, o, c', dv, hv, q1, q2, q3, q4, p5, p6, q7⟩ := HXr.out.at_ hxk
        injection hv with e1 _ e3
        subst e1 e3
        have hft := fitsAll_take s.prof hd.exts k hd.exts[k] hxk fb
        clear hxk
        generalize hd.exts[k] = x at *
        have HFT := hide hft
        clear hft
        obtain ⟨Ad, cd, rfl⟩ := q7.shape
        clear q7
        generalize hbk : (fb && fitsAll s.prof (hd.exts.take k)) = bk at *
        clear s1 s2 s3 x10
        go_upto_region 15 with fail
        generalize hw4 : World.alloc wr _ = w4
        obtain ⟨g4, hg4⟩ : ∃ g4, g4 = wr.heap.size := ⟨_, rfl⟩
        rw [← hg4]
        have B4 := hide (show Blk w4 g4 66 #[.int .u8 x.id, .slice Ad x.data.length cd] by subst hw4 hg4; exact Blk.new wr _ _)
        have K4 := hide (show Keep wr w4 Nul by subst hw4; exact (Keep.refl wr Nul).alloc _)
        have BS4 := hide (BSr.out.keep K4.out (fun e => e))
        clear hw4 hg4
        have e0 := B4.out.cell 0 (v := .int .u8 x.id) rfl
        have e1 := B4.out.cell 1 (v := .slice Ad x.data.length cd) rfl
        have s3 := BS4.out.cell 3 (v := .int .u16 s.prof) rfl
        cases bk with
        | false =>
          go_wp2_with fail
          go_roundw
          case rel => exact ⟨k + 1, by omega, by go_num, by rw [← HFT.out]; rfl, KK.out.trans0 K4.out⟩
          case measure => simp [intOf]; omega
        | true =>
          have hF2 := hide (fits_walk w4 s.prof x.id Ad x.data.length cd)
          generalize hfx : fitsB s.prof x.id x.data.length = fx at *
          go_wp2_with fail
          refine (hF2.out).mono ?_
          rintro e w5 ⟨rfl, rfl⟩
          go_wp2_with fail
          go_roundw
          case rel => exact ⟨k + 1, by omega, by go_num, by rw [← HFT.out]; rfl, KK.out.trans0 K4.out⟩
          case measure => simp [intOf]; omega
      · obtain rfl : k = hd.exts.length := by omega
        rw [List.take_length]
        have hpf : (fb && fitsAll s.prof hd.exts) = false := by have := HPN.out; rw [← HNL.out, HFB.out] at this; exact this
        rw [hpf]
        clear hpf
        go_wp2_with fail
        (try go_ret)
        exact ⟨rfl, ((HK0.out.trans0 K1.out).trans0 KK.out).below0⟩
  | some h1 =>
    rw [hr] at cX HH
    have hgr := setP_gr hr
    have HPT := hide (prof_there HNE.out hr)
    have HPO := hide (fun (k : Nat) (x : Ex) (hx : hd.exts[k]? = some x) (hi : x.id ≠ s.id) => prof_others HNE.out HO.out hr hx hi)
    have hh1 : h' = h1 := HH.out
    subst hh1
    have gl1 : h'.srcs.length ≤ 2147483647 := by rw [hgr.srcs]; exact hs1
    have gl2 : h'.exts.length ≤ 2147483647 := by have := hgr.len; omega
    have GL3 := hide (show ∀ x ∈ h'.exts, x.data.length ≤ 2147483647 from fun x hx => (hgr.mem x hx).elim (fun h => HDN.out x h) (fun h => by rw [h]; show s.data.length ≤ 2147483647; omega))
    clear hr hgr
    go_wp2_with fail
    refine (hW.out).mono ?_
    rintro e w1 ⟨rfl, k1⟩
    have K1 := hide k1
    have BH1 := hide (BH.out.keep k1 (fun e => e))
    have BS1 := hide (BS.out.keep k1 (fun e => e))
    have BR1 := hide (BR.out.keep k1 (fun e => e))
    have HX1 := hide (HV0.out.parts.2.keep0 k1)
    have HG1 := hide (HV1.out.keep0 k1)
    have HR1 := hide (HR.out.keep0 k1)
    have cX1 : w1.cell? ⟨bX, oX, none⟩ = some (.bool true) := k1.cell (fun e => e) cX
    clear k1 hW cX
    have s1 := BS1.out.cell 1 (v := .int .u8 s.id) rfl
    have hGet := hide (get_walk (id := s.id) w1 HG1.out gl1 gl2 GL3.out)
    obtain ⟨y0, y1, y2, y3, y4, y5, y6, y7, y8, y9, y10, y11⟩ := hc12 BR1.out
    go_wp2_with fail
    refine Calls.mono (show Calls _ _ #[.agg (hcells h' (.slice X1 m1 d1) (.slice X2 m2 d2)), .int .u8 s.id] _ _ from hGet.out) ?_
    rintro e w2 ⟨hg, k2⟩
    rcases hg with ⟨hf, rfl⟩ | ⟨hs, Ag, cg, rfl, rdg⟩
    · exfalso
      have := HPT.out.1
      rw [hf] at this
      rw [← this] at hd1
      simp at hd1
    · rw [HPT.out.1] at rdg ⊢
      have K2 := hide (K1.out.trans0 k2)
      have BH2 := hide (BH1.out.keep k2 (fun e => e))
      have BS2 := hide (BS1.out.keep k2 (fun e => e))
      have BR2 := hide (BR1.out.keep k2 (fun e => e))
      have HX2 := hide (HX1.out.keep0 k2)
      have HG2 := hide (HG1.out.keep0 k2)
      have r1 := run_str (P := Tryd.prog) (tb := 29) (ts := 9) Tryd.underlying29 Tryd.underlying5 Tryd.underlying9 rdg HI.out
      have r2 := run_str (P := Tryd.prog) (tb := 29) (ts := 9) Tryd.underlying29 Tryd.underlying5 Tryd.underlying9 (HR1.out.keep0 k2) HI.out
      have s2 := BS2.out.cell 2 (v := .slice A n c) rfl
      have x10 := BH2.out.cell 10 (v := .slice A2 n2 c2) rfl
      have hn2 : n2 = hd.exts.length := by
        obtain ⟨_, _, e⟩ := HX2.out.shape
        injection e
      subst hn2
      clear k2 hGet s1 y0 y1 y2 y3 y4 y5 y6 y7 y8 y9 y10 y11 cX1 rdg hs
      generalize bstr s.data = sx at r1 r2
      generalize s.data.length = nd at *
      go_wp2_with fail
      clear r1 r2 s2 x10
      go_loopw [141] (fun s141 wr => ∃ k : Nat, k ≤ hd.exts.length ∧ s141 = .int .i64 (k : Int) ∧ Keep w2 wr Nul) (fun s141 _ => hd.exts.length - (intOf s141).toNat)
      case atStart => exact ⟨0, Nat.zero_le _, rfl, Keep.refl _ _⟩
      case round =>
        obtain ⟨k, hk, rfl, hK⟩ := hrel
        have KK := hide hK
        have HXr := hide (HX2.out.keep0 hK)
        have BSr := hide (BS2.out.keep hK (fun e => e))
        have BRr := hide (BR2.out.keep hK (fun e => e))
        have HGr := hide (HG2.out.keep0 hK)
        clear hK
        by_cases hlt : k < hd.exts.length
        · have hxk : hd.exts[k]? = some hd.exts[k] := List.getElem?_eq_getElem _
          obtain ⟨b, o, c', dv, hv, q1, q2, q3, q4, p5, p6, q7⟩ := HXr.out.at_ hxk
          injection hv with e1 _ e3
          subst e1 e3
          have HPX := hide (HPO.out k _ hxk)
          have HIX := hide (HOK.out.exts _ (List.mem_of_getElem? hxk)).2
          clear hxk
          generalize hd.exts[k] = x at *
          obtain ⟨Ad, cd, rfl⟩ := q7.shape
          have Q7 := hide q7
          clear q7
          go_upto_region 24 with fail
          generalize hw4 : World.alloc wr _ = w4
          obtain ⟨g4, hg4⟩ : ∃ g4, g4 = wr.heap.size := ⟨_, rfl⟩
          rw [← hg4]
          have B4 := hide (show Blk w4 g4 66 #[.int .u8 x.id, .slice Ad x.data.length cd] by subst hw4 hg4; exact Blk.new wr _ _)
          have K4 := hide (show Keep wr w4 Nul by subst hw4; exact (Keep.refl wr Nul).alloc _)
          have BS4 := hide (BSr.out.keep K4.out (fun e => e))
          have BR4 := hide (BRr.out.keep K4.out (fun e => e))
          have HG4 := hide (HGr.out.keep0 K4.out)
          clear hw4 hg4
          have e0 := B4.out.cell 0 (v := .int .u8 x.id) rfl
          have s1 := BS4.out.cell 1 (v := .int .u8 s.id) rfl
          by_cases hid : x.id = s.id
          · have b1 : (x.id == s.id) = true := by simp [hid]
            clear hid
            go_wp2_with fail
            go_roundw
            case rel => exact ⟨k + 1, by omega, by go_num, KK.out.trans0 K4.out⟩
            case measure => simp [intOf]; omega
          · have b1 : (x.id == s.id) = false := by simpa using hid
            obtain ⟨hfd, hfs⟩ := HPX.out hid
            have HFD := hide hfd
            clear hid hfd hfs
            have hGet := hide (get_walk (id := x.id) w4 HG4.out gl1 gl2 GL3.out)
            obtain ⟨y0, y1, y2, y3, y4, y5, y6, y7, y8, y9, y10, y11⟩ := hc12 BR4.out
            go_wp2_with fail
            refine Calls.mono (show Calls _ _ #[.agg (hcells h' (.slice X1 m1 d1) (.slice X2 m2 d2)), .int .u8 x.id] _ _ from hGet.out) ?_
            rintro e w5 ⟨hg, k5⟩
            have e1 := (B4.out.keep k5 (fun e => e)).cell 1 (v := .slice Ad x.data.length cd) rfl
            have K5 := hide (K4.out.trans0 k5)
            clear y0 y1 y2 y3 y4 y5 y6 y7 y8 y9 y10 y11
            rcases hg with ⟨hf, rfl⟩ | ⟨hs, Ag2, cg2, rfl, rdg⟩
            · have hx0 : x.data.length = 0 := by
                have := HFD.out
                rw [hf] at this
                rw [← this]
                rfl
              rw [hx0] at e1
              clear hf k5
              go_wp2_with fail
              (try go_ret)
              exact ⟨rfl, (((HK0.out.trans0 K2.out).trans0 KK.out).trans0 K5.out).below0⟩
            · rw [HFD.out] at rdg ⊢
              have r1 := run_str (P := Tryd.prog) (tb := 29) (ts := 9) Tryd.underlying29 Tryd.underlying5 Tryd.underlying9 rdg HIX.out
              have r2 := run_str (P := Tryd.prog) (tb := 29) (ts := 9) Tryd.underlying29 Tryd.underlying5 Tryd.underlying9 ((Q7.out.keep0 K4.out).keep0 k5) HIX.out
              clear k5 rdg hs
              generalize bstr x.data = sx2 at r1 r2
              go_wp2_with fail
              go_roundw
              case rel => exact ⟨k + 1, by omega, by go_num, KK.out.trans0 K5.out⟩
              case measure => simp [intOf]; omega
        · obtain rfl : k = hd.exts.length := by omega
          go_wp2_with fail
          (try go_ret)
          exact ⟨rfl, ((HK0.out.trans0 K2.out).trans0 KK.out).below0⟩
end Go.Proofs.YtdmnflngafbobaaDoor
