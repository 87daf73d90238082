/-
  (rtp.Header).MarshalTo: a header into a buffer that has room for it. Conditions: those that stand in each theorem.
-/
import Derived.Test.YtdmnflngafbobaaDoorMtoE
namespace Go.Proofs.YtdmnflngafbobaaDoor
open Go.RowKit
set_option linter.unusedVariables false
set_option linter.unusedSimpArgs false
set_option maxRecDepth 100000

set_option maxHeartbeats 1600000 in
theorem mto_walk {p : Nat → Prop} {hd : Hd} {sv xv : Value} {off : Int} {g L : Nat} (w : World) (hS : Rd w p 1 sv hd.srcs.length (U32 hd.srcs)) (hX : XR w p xv hd.exts) (hpg : ∀ k, p k → k ≠ g)
    (hB : Buf w g [] (Z8 L)) (hg : Good hd) (hL : hsize hd ≤ L) (hLm : L ≤ 1099511627776) (hn : hd.exts.length ≤ 2147483647) (hdn : ∀ x ∈ hd.exts, x.data.length ≤ 2147483647) :
    Calls Tryd.prog 73 #[.agg (rcells hd sv xv off), .slice (some ⟨g, 0, none⟩) L L] w fun e w' => e = .returned (.tuple #[.int .i64 (hsize hd), Value.nilIface]) ∧ Buf w' g (outB hd) (Z8 (L - hsize hd)) ∧ Keep w w' (· = g) := by
  replace hS := hS.mono (q := fun k => k < w.heap.size ∧ k ≠ g) (fun k hk hp => ⟨hk, hpg k hp⟩)
  replace hX := hX.mono (q := fun k => k < w.heap.size ∧ k ≠ g) (fun k hk hp => ⟨hk, hpg k hp⟩)
  obtain ⟨A1, c1, rfl⟩ := hS.shape
  obtain ⟨A2, c2, rfl⟩ := hX.shape
  have H1 := hide hS
  have H2 := hide hX
  have HD := hide hdn
  have HG := hide hg
  have hgw := hB.lt
  have HB0 := hide hB
  have hs : hd.srcs.length ≤ 15 := hg.srcs
  have h12 : 12 + hd.srcs.length * 4 ≤ hsize hd := by unfold hsize; omega
  have hLi : ((hsize hd : Nat) : Int) ≤ (L : Int) := by omega
  have hL12 : (12 : Int) ≤ (L : Int) := by omega
  have hL4 : (4 : Int) ≤ (L : Int) := by omega
  have hL8 : (8 : Int) ≤ (L : Int) := by omega
  have hN2 : ¬ L = 2 := by omega
  have hN4 : ¬ L = 4 := by omega
  have hN8 : ¬ L = 8 := by omega
  have hv2 := hg.v
  have hM0 := fun (wa : World) (k : Keep w wa Nul) => msize_walk (off := off) wa (hS.keep0 k) (hX.keep0 k) (by omega) hn hdn
  have HM := hide hM0
  clear hS hX hdn hg hB hpg hM0
  have HRC : (rcells hd (.slice A1 hd.srcs.length c1) (.slice A2 hd.exts.length c2) off) = #[.int .u8 2, .bool hd.pad, .bool hd.ext, .bool hd.mark, .int .u8 hd.ty, .int .u16 hd.seq, .int .u32 hd.time, .int .u32 hd.ssrc, .slice A1 hd.srcs.length c1, .int .u16 hd.prof, .slice A2 hd.exts.length c2, .int .u8 hd.padn, .int .i64 off] := by unfold rcells; rw [hv2]
  rw [HRC]
  go_enter Tryd.func73, Tryd.ntmps73
  go_upto_region 1 with fail
  generalize hwa : World.alloc w _ = wa
  have BX := hide (show Blk wa w.heap.size 108 #[.int .u8 2, .bool hd.pad, .bool hd.ext, .bool hd.mark, .int .u8 hd.ty, .int .u16 hd.seq, .int .u32 hd.time, .int .u32 hd.ssrc, .slice A1 hd.srcs.length c1, .int .u16 hd.prof, .slice A2 hd.exts.length c2, .int .u8 hd.padn, .int .i64 off] by subst hwa; exact Blk.new w _ _)
  have KA := hide (show Keep w wa Nul by subst hwa; exact (Keep.refl w Nul).alloc _)
  have hM := hide (HM.out wa KA.out)
  have HRC := hide HRC
  generalize hv0 : Value.agg _ = v0
  have HV0 := hide hv0
  clear hwa hv0
  have x0 := BX.out.cell 0 (v := .int .u8 2) rfl
  have x1 := BX.out.cell 1 (v := .bool hd.pad) rfl
  have x2 := BX.out.cell 2 (v := .bool hd.ext) rfl
  have x3 := BX.out.cell 3 (v := .bool hd.mark) rfl
  have x4 := BX.out.cell 4 (v := .int .u8 hd.ty) rfl
  have x5 := BX.out.cell 5 (v := .int .u16 hd.seq) rfl
  have x6 := BX.out.cell 6 (v := .int .u32 hd.time) rfl
  have x7 := BX.out.cell 7 (v := .int .u32 hd.ssrc) rfl
  have x8 := BX.out.cell 8 (v := .slice A1 hd.srcs.length c1) rfl
  have x9 := BX.out.cell 9 (v := .int .u16 hd.prof) rfl
  have x10 := BX.out.cell 10 (v := .slice A2 hd.exts.length c2) rfl
  have x11 := BX.out.cell 11 (v := .int .u8 hd.padn) rfl
  have x12 := BX.out.cell 12 (v := .int .i64 off) rfl
  go_wp2_with fail
  refine Calls.mono (show Calls _ _ #[.agg #[.int .u8 2, .bool hd.pad, .bool hd.ext, .bool hd.mark, .int .u8 hd.ty, .int .u16 hd.seq, .int .u32 hd.time, .int .u32 hd.ssrc, .slice A1 hd.srcs.length c1, .int .u16 hd.prof, .slice A2 hd.exts.length c2, .int .u8 hd.padn, .int .i64 off]] _ _ from HRC.out ▸ hM.out) ?_
  rintro e w1 ⟨rfl, k1⟩
  have hzA := KA.out.size
  have lx := BX.out.lt
  have BX1 := hide (BX.out.keep k1 id)
  have K1 := hide (KA.out.trans0 k1)
  have BB1 := hide (HB0.out.keep K1.out id)
  clear k1 hM HM x0 x1 x2 x3 x4 x5 x6 x7 x8 x9 x10 x11 x12
  have z0 := BB1.out.zcell (k := 0) (by simp) (by simp; omega)
  have z1 := BB1.out.zcell (k := 1) (by simp) (by simp; omega)
  have fz := fun i => BB1.out.free i
  have lz := BB1.out.lt
  have lx1 := BX1.out.lt
  have hgx : g ≠ w.heap.size := by omega
  have x0 := BX1.out.cell 0 (v := .int .u8 2) rfl
  have x1 := BX1.out.cell 1 (v := .bool hd.pad) rfl
  have x2 := BX1.out.cell 2 (v := .bool hd.ext) rfl
  have x3 := BX1.out.cell 3 (v := .bool hd.mark) rfl
  have x4 := BX1.out.cell 4 (v := .int .u8 hd.ty) rfl
  have x8 := BX1.out.cell 8 (v := .slice A1 hd.srcs.length c1) rfl
  have eo := or_128 _ (show hd.srcs.length < 16 by omega)
  go_upto_if 37 with fail
  generalize hw2 : World.setCell w1 _ _ = w2
  have B2 := hide (show Buf w2 g [128 + (hd.srcs.length : Int)] (Z8 (L - 1)) by subst hw2; exact BB1.out.z1 (k := 0) (by omega) rfl (128 + (hd.srcs.length : Int)))
  have K2 := hide (show Keep w w2 (· = g) by subst hw2; exact (K1.out.nul (· = g)).setg _ (fun _ => rfl) _)
  have X2 := hide (show Blk w2 w.heap.size 108 #[.int .u8 2, .bool hd.pad, .bool hd.ext, .bool hd.mark, .int .u8 hd.ty, .int .u16 hd.seq, .int .u32 hd.time, .int .u32 hd.ssrc, .slice A1 hd.srcs.length c1, .int .u16 hd.prof, .slice A2 hd.exts.length c2, .int .u8 hd.padn, .int .i64 off] by subst hw2; exact BX1.out.far (p := ⟨g, 0, none⟩) (fun e => hgx e.symm) _)
  have Z2 := hide (show w2.heap.size = w1.heap.size by subst hw2; exact size_set1 _ _ _)
  have lz2 := B2.out.lt
  clear hw2 z0 z1 fz lz lx1 x0 x1 x2 x3 x4 x8 eo
  go_cut [4] (fun s4 wx => s4 = .int .i64 0 ∧ Buf wx g [128 + (hd.srcs.length : Int) + (if hd.pad then 32 else 0)] (Z8 (L - 1)) ∧ Keep w2 wx (· = g))
  case first =>
    have x1 := X2.out.cell 1 (v := .bool hd.pad) rfl
    cases hp : hd.pad
    · rw [hp] at x1
      go_wp2_with fail
      go_meet
      exact ⟨rfl, by simpa [hp] using B2.out, Keep.refl _ _⟩
    · rw [hp] at x1
      have eo := or_pad _ (show hd.srcs.length < 16 by omega)
      have y0 := B2.out.at_ (i := 0) (y := 128 + (hd.srcs.length : Int)) rfl
      have fz := fun i => B2.out.free i
      go_wp2_with fail
      go_meet
      refine ⟨rfl, ?_, Keep.set1 _ _ _ _⟩
      have := Buf.mid (d1 := []) (d2 := []) (k := 0) B2.out rfl (128 + (hd.srcs.length : Int) + 32)
      simpa [hp] using this
  case rest =>
  obtain ⟨w3, hw3⟩ : ∃ w3, w3 = wc := ⟨_, rfl⟩
  subst hw3
  obtain ⟨rfl, b3, k3⟩ := hcut
  have B3 := hide b3
  have K3 := hide (K2.out.trans k3 fun _ _ e => e)
  have X3 := hide (X2.out.keep k3 (fun e => hgx e.symm))
  have lz3 := b3.lt
  clear b3 k3 lz2
  have x2 := X3.out.cell 2 (v := .bool hd.ext) rfl
  go_upto_if 44 with fail
  go_cut [4] (fun s4 wx => s4 = .int .i64 0 ∧ Buf wx g [hb0 hd] (Z8 (L - 1)) ∧ Keep w3 wx (· = g))
  case first =>
    cases hp : hd.ext
    · rw [hp] at x2
      go_wp2_with fail
      go_meet
      refine ⟨rfl, ?_, Keep.refl _ _⟩
      have e : hb0 hd = 128 + (hd.srcs.length : Int) + (if hd.pad then 32 else 0) := by simp [hb0, hp]
      rw [e]; exact B3.out
    · rw [hp] at x2
      have y0 := B3.out.at_ (i := 0) rfl
      have fz := fun i => B3.out.free i
      have B3' := B3.out
      have HB3' := hide B3'
      clear B3'
      cases hq : hd.pad
      · have eo := or_ext0 _ (show hd.srcs.length < 16 by omega)
        rw [hq] at y0
        simp only [Bool.false_eq_true, if_false, Int.add_zero] at y0
        go_wp2_with fail
        go_meet
        refine ⟨rfl, ?_, Keep.set1 _ _ _ _⟩
        have e : hb0 hd = 128 + (hd.srcs.length : Int) + 16 := by simp [hb0, hp, hq]
        rw [e]; exact Buf.mid (d1 := []) (d2 := []) (k := 0) HB3'.out rfl _
      · have eo := or_ext1 _ (show hd.srcs.length < 16 by omega)
        rw [hq] at y0
        simp only [if_true] at y0
        go_wp2_with fail
        go_meet
        refine ⟨rfl, ?_, Keep.set1 _ _ _ _⟩
        have e : hb0 hd = 128 + (hd.srcs.length : Int) + 32 + 16 := by simp [hb0, hp, hq]
        rw [e]; exact Buf.mid (d1 := []) (d2 := []) (k := 0) HB3'.out rfl _
  case rest =>
  obtain ⟨w4, hw4⟩ : ∃ w4, w4 = wc := ⟨_, rfl⟩
  subst hw4
  obtain ⟨rfl, b4, k4⟩ := hcut
  have B4 := hide b4
  have K4 := hide (K3.out.trans k4 fun _ _ e => e)
  have X4 := hide (X3.out.keep k4 (fun e => hgx e.symm))
  have lz4 := b4.lt
  have z1 := b4.zcell (k := 1) (by simp) (by simp; omega)
  have fz := fun i => B4.out.free i
  have x4 := X4.out.cell 4 (v := .int .u8 hd.ty) rfl
  have x3 := X4.out.cell 3 (v := .bool hd.mark) rfl
  clear b4 k4 lz3 x2
  go_upto_if 55 with fail
  generalize hw5 : World.setCell w4 _ _ = w5
  have B5 := hide (show Buf w5 g [hb0 hd, hd.ty] (Z8 (L - 2)) by subst hw5; exact B4.out.z1 (k := 1) (by omega) rfl hd.ty)
  have K5 := hide (show Keep w w5 (· = g) by subst hw5; exact K4.out.setg _ (fun _ => rfl) _)
  have X5 := hide (show Blk w5 w.heap.size 108 #[.int .u8 2, .bool hd.pad, .bool hd.ext, .bool hd.mark, .int .u8 hd.ty, .int .u16 hd.seq, .int .u32 hd.time, .int .u32 hd.ssrc, .slice A1 hd.srcs.length c1, .int .u16 hd.prof, .slice A2 hd.exts.length c2, .int .u8 hd.padn, .int .i64 off] by subst hw5; exact X4.out.far (p := ⟨g, 1, none⟩) (fun e => hgx e.symm) _)
  have lz5 := B5.out.lt
  clear hw5 z1 fz x4 x3 lz4
  go_cut [4] (fun s4 wx => s4 = .int .i64 0 ∧ Buf wx g [hb0 hd, hb1 hd] (Z8 (L - 2)) ∧ Keep w5 wx (· = g))
  case first =>
    have x3 := X5.out.cell 3 (v := .bool hd.mark) rfl
    cases hp : hd.mark
    · rw [hp] at x3
      go_wp2_with fail
      go_meet
      refine ⟨rfl, ?_, Keep.refl _ _⟩
      have e : hb1 hd = hd.ty := by simp [hb1, hp]
      rw [e]; exact B5.out
    · rw [hp] at x3
      have eo : bits .or .u8 hd.ty 128 = hd.ty + 128 := or8' 7 _ _ HG.out.ok.ty.1 (by have := HG.out.ty; omega) (by decide) (by omega) (by have := HG.out.ty; omega) (by decide)
      have y1 := B5.out.at_ (i := 1) (y := hd.ty) rfl
      have fz := fun i => B5.out.free i
      go_wp2_with fail
      go_meet
      refine ⟨rfl, ?_, Keep.set1 _ _ _ _⟩
      have e : hb1 hd = hd.ty + 128 := by simp [hb1, hp]
      rw [e]; exact Buf.mid (d1 := [hb0 hd]) (d2 := []) (k := 1) B5.out rfl _
  case rest =>
  obtain ⟨w6, hw6⟩ : ∃ w6, w6 = wc := ⟨_, rfl⟩
  subst hw6
  obtain ⟨rfl, b6, k6⟩ := hcut
  have B6 := hide b6
  have K6 := hide (K5.out.trans k6 fun _ _ e => e)
  have X6 := hide (X5.out.keep k6 (fun e => hgx e.symm))
  have x5 := X6.out.drew.cell 5 (v := .int .u16 hd.seq) rfl
  clear b6 k6 lz5
  go_upto_region 12 with fail
  go_region_held3 (fun w' => w'.cell? ⟨w.heap.size, 5, none⟩ = some (.int .u16 hd.seq))
    (first | with_reducible exact x5 | with_reducible exact y5)
    (first
      | (go_at_call 104; refine (put16_walk B6.out.drew (by omega) (by decide) rfl HG.out.ok.seq).mono ?_; rintro e w7 ⟨rfl, b7, k7⟩; have B7 := hide b7; have K7 := hide (K6.out.drew.trans k7 fun _ _ e => e); have X7 := hide (X6.out.drew.keep k7 (fun e => hgx e.symm)); have y5 := X7.out.cell 5 (v := .int .u16 hd.seq) rfl; clear b7 k7))
  clear x5 y5
  have x6 := X7.out.drew.cell 6 (v := .int .u32 hd.time) rfl
  go_upto_region 13 with fail
  go_region_held3 (fun w' => w'.cell? ⟨w.heap.size, 6, none⟩ = some (.int .u32 hd.time))
    (first | with_reducible exact x6 | with_reducible exact y6)
    (first
      | (go_at_call 105; refine (put32_walk B7.out.drew (by omega) (by decide) rfl HG.out.ok.time).mono ?_; rintro e w8 ⟨rfl, b8, k8⟩; have B8_ := hide b8; have K8 := hide (K7.out.drew.trans k8 fun _ _ e => e); have X8 := hide (X7.out.drew.keep k8 (fun e => hgx e.symm)); have y6 := X8.out.cell 6 (v := .int .u32 hd.time) rfl; clear b8 k8))
  clear x6 y6
  have x7 := X8.out.drew.cell 7 (v := .int .u32 hd.ssrc) rfl
  go_upto_region 14 with fail
  go_region_held3 (fun w' => w'.cell? ⟨w.heap.size, 7, none⟩ = some (.int .u32 hd.ssrc))
    (first | with_reducible exact x7 | with_reducible exact y7)
    (first
      | (go_at_call 105; refine (put32_walk B8_.out.drew (by omega) (by decide) rfl HG.out.ok.ssrc).mono ?_; rintro e w9 ⟨rfl, b9, k9⟩; have B9 := hide b9; have K9 := hide (K8.out.drew.trans k9 fun _ _ e => e); have X9 := hide (X8.out.drew.keep k9 (fun e => hgx e.symm)); have y7 := X9.out.cell 7 (v := .int .u32 hd.ssrc) rfl; clear b9 k9))
  clear x7 y7
  have x8 := X9.out.cell 8 (v := .slice A1 hd.srcs.length c1) rfl
  go_wp2_with fail
  have lz9 := B9.out.lt
  obtain ⟨H12, hH⟩ : ∃ H12 : List Int, H12 = [hb0 hd, hb1 hd] ++ by16 hd.seq ++ by32 hd.time ++ by32 hd.ssrc := ⟨_, rfl⟩
  have hHl : H12.length = 12 := by rw [hH]; rfl
  have HH := hide hH
  have B9' := hide (show Buf w9 g H12 (Z8 (L - 12)) by rw [hH]; have := B9.out; rw [show L - 2 - 2 - 4 - 4 = L - 12 by omega] at this; exact this)
  clear hH
  have hfl : ∀ k, k ≤ hd.srcs.length → (H12 ++ (hd.srcs.take k).flatMap by32).length = 12 + 4 * k := fun k hk => by rw [List.length_append, hHl, by32s_len, List.length_take]; omega
  have HFL := hide hfl
  have HSO := hide HG.out.ok.srcs
  clear hfl
  go_loopw [4, 79] (fun s i wr => ∃ k N : Nat, k ≤ hd.srcs.length ∧ N = 12 + 4 * k ∧ i = .int .i64 k ∧ s = .int .i64 (N : Int) ∧ Buf wr g (H12 ++ (hd.srcs.take k).flatMap by32) (Z8 (L - N)) ∧ Keep w9 wr (· = g)) (fun _ i _ => hd.srcs.length - (intOf i).toNat)
  case atStart => exact ⟨0, 12, Nat.zero_le _, rfl, rfl, rfl, by simpa using B9'.out, Keep.refl _ _⟩
  case round =>
    obtain ⟨k, N, hk, hN, rfl, rfl, hB, hK⟩ := hrel
    by_cases hlt : k < hd.srcs.length
    · obtain ⟨b, o, c', hv, q1, q2, ⟨q3, q4⟩, q5, hc⟩ := H1.out.lit (by omega)
      injection hv with e1 _ e3
      subst e1 e3
      have hx : hd.srcs[k]? = some hd.srcs[k] := List.getElem?_eq_getElem _
      have hcx := hc k (.int .u32 hd.srcs[k]) (by simp [U32, hx])
      have hkw : Keep w wr (· = g) := K9.out.trans hK fun _ _ e => e
      have hcw := hkw.cell (by exact q4) hcx
      have hxo := HSO.out _ (List.mem_of_getElem? hx)
      have HX := hide hx
      clear hx hcx hc
      generalize hd.srcs[k] = x at *
      have HB := hide hB
      have HKr := hide hK
      have lzr := hB.lt
      have hn1 : ¬ L = N := by omega
      have hn2 : (N : Int) + 4 ≤ (L : Int) := by omega
      have hn3 : (N : Int) ≤ (L : Int) := by omega
      have hn4 : (0 : Int) ≤ (N : Int) := by omega
      have HN := hide hN
      clear hB hK hkw hN
      go_wp2_with fail
      refine (put32_walk HB.out (by omega) (by decide) (by rw [HFL.out k hk]; exact HN.out) hxo).mono ?_
      rintro e wy ⟨rfl, b1, k1⟩
      have HB1 := hide b1
      have HK1 := hide (HKr.out.trans k1 fun _ _ e => e)
      clear b1 k1
      go_wp2_with fail
      go_roundw
      case rel =>
        refine ⟨k + 1, N + 4, by omega, by have := HN.out; omega, by go_num, by go_num, ?_, HK1.out⟩
        obtain ⟨hk', e⟩ := List.getElem?_eq_some_iff.1 HX.out
        rw [List.take_succ_eq_append_getElem hk', e, List.flatMap_append, ← List.append_assoc, ← Nat.sub_sub]
        simpa using HB1.out
      case measure => simp [intOf]; omega
    · obtain rfl : k = hd.srcs.length := by omega
      rw [List.take_length, HH.out] at hB
      have hB' : Buf wr g (headB hd) (Z8 (L - N)) := by simpa [headB] using hB
      have HB := hide hB'
      have HKr := hide (K9.out.trans hK fun _ _ e => e)
      have XR := hide (X9.out.keep hK (fun e => hgx e.symm))
      have x2 := XR.out.cell 2 (v := .bool hd.ext) rfl
      have lzr := hB.lt
      clear hB hB' hK
      cases he : hd.ext
      · rw [he] at x2
        have hh : hsize hd = N := by unfold hsize; rw [he]; simp; omega
        have ho : outB hd = headB hd := by unfold outB; rw [he]; simp
        go_wp2_with fail
        go_ret2
        refine ⟨by rw [hh]; rfl, ?_, HKr.out⟩
        rw [hh, ho]
        exact HB.out
      · rw [he] at x2
        have x9 := XR.out.drew.cell 9 (v := .int .u16 hd.prof) rfl
        have hsz := hsize_ext he
        have hn1 : ¬ L = N := by omega
        have hn2 : (N : Int) + 2 ≤ (L : Int) := by omega
        have hn3 : (N : Int) ≤ (L : Int) := by omega
        have hn4 : (0 : Int) ≤ (N : Int) := by omega
        have hn5 : (N : Int) + 4 ≤ (L : Int) := by omega
        have HN := hide hN
        have HSZ := hide hsz
        clear hN hsz
        have hm2 : N + 2 ≤ L := by omega
        have hm3 : N ≤ L := by omega
        have hm4 : (N : Int) ≤ (N : Int) + 2 := by omega
        have hm5 : (0 : Int) ≤ (N : Int) + 2 := by omega
        have hm6 : ((N : Int) + 2).toNat = N + 2 := by omega
        have hw0 : IntKind.i64.wrap (N : Int) = (N : Int) := by rw [IntKind.wrap_i64]; omega
        have hw2 : IntKind.i64.wrap ((N : Int) + 2) = (N : Int) + 2 := by rw [IntKind.wrap_i64]; omega
        go_upto_region 24 with fail
        go_region_held3 (fun w' => w'.cell? ⟨w.heap.size, 9, none⟩ = some (.int .u16 hd.prof))
          (first | with_reducible exact x9 | with_reducible exact y9)
          (first
            | (go_at_call 104; refine (put16_walk HB.out.drew (by omega) (by decide) (by rw [headB_len]; exact HN.out) HG.out.ok.prof).mono ?_; rintro e wa1 ⟨rfl, b7, k7⟩; have BE1 := hide b7; have KE1 := hide (HKr.out.drew.trans k7 fun _ _ e => e); have XE1 := hide (XR.out.drew.keep k7 (fun e => hgx e.symm)); have y9 := XE1.out.cell 9 (v := .int .u16 hd.prof) rfl; clear b7 k7))
        have hBE1 := BE1.out
        have hKE1 := KE1.out
        have hszx := hsize_ext he
        obtain ⟨e, hx, hel⟩ := HG.out.ext he
        have hXw := H2.out.keep hKE1 (fun i hi hp e => hp.2 e)
        have hBXw : Blk wa1 w.heap.size 108 (rcells hd (.slice A1 hd.srcs.length c1) (.slice A2 hd.exts.length c2) off) := by rw [HRC.out]; rw [he] at XE1 ⊢; exact XE1.out
        have HBE1 := hide (show Buf wa1 g (headB hd ++ by16 hd.prof) (Z8 (L - N - 2)) from hBE1)
        have HKE1 := hide hKE1
        have HSX := hide hszx
        have HXW := hide hXw
        have HBXW := hide hBXw
        have HEX := hide hx
        have hgx' : w.heap.size ≠ g := fun e => hgx e.symm
        clear hBE1 hKE1 hszx hXw hBXw hx BE1 KE1 XE1 y9 x9
        go_upto_region 25 with fail
        refine part_use (mto_ext (N := N) (x := w.heap.size) (sv := .slice A1 hd.srcs.length c1) (off := off) (p := fun k => k < w.heap.size ∧ k ≠ g) wa1 _ _ _ _ _ _ _ _ _ _ _ _ _ _ _ _ _ _ _ _ _ _ _ _ _ _ _ _ _ _ _ _ _ _ _ _ _ _ _ _ _ _ _ _ _ _ _ _ _ _ _ _ _ _ _ _ _ _ _ _ _ _ _ _ _ _ _ _ _ _ _ _ _ _ _ _ _ _ _ _ _ _ _ _ _ _ _ _ _ _ _ _ _ _ _ _ _ _ _ _ _ _ _ _ _ _ _ _ _ _ _ _ _ _ _ _ _ _ _ _ _ _ _ _ _ _ _ _ _ _ _ _ _ _ _ _ _ _ _ _ _ _ _ _ _ _ _ _ _ _ _ _ _ _ _ _ _ _ _ _ _ _ _ _ _ _ _ _ _ _ _ _ _ _ _ _ _ _ _ _ _ _ _ _ _ _ _ _ _ _ _ _ _ _ _ _ _ _ _ _ _ _ _ _ _ _ _ _ _ _ _ _ _ _ _ _ _ _ _ _ _ _ _ _ _ _ ?_ HXW.out (fun k hp => hp.2) HG.out he HEX.out hel hn hgx' HBE1.out HBXW.out HN.out (by omega) hLm) rfl rfl (by assumption)
        intro v0 v1 v2 v3 v6 v7 v8 v9 v10 v11 v12 v13 v14 v15 v16 v17 v18 v19 v20 v21 v22 v23 v24 v25 v26 v27 v28 v29 v30 v31 v32 v33 v34 v35 v36 v37 v38 v39 v40 v41 v42 v43 v44 v45 v46 v47 v48 v49 v50 v51 v52 v53 v54 v55 v56 v57 v58 v59 v60 v61 v62 v63 v64 v65 v66 v67 v68 v69 v70 v71 v72 v73 v74 v75 v76 v77 v78 v79 v80 v81 v82 v83 v84 v85 v86 v87 v88 v89 v90 v91 v92 v93 v94 v95 v96 v97 v98 v99 v100 v101 v102 v103 v104 v105 v106 v107 v108 v109 v110 v111 v112 v113 v114 v115 v116 v117 v118 v119 v120 v121 v122 v123 v124 v125 v126 v127 v128 v129 v130 v131 v132 v133 v134 v135 v136 v137 v138 v139 v140 v141 v142 v143 v144 v145 v146 v147 v148 v149 v150 v151 v152 v153 v154 v155 v156 v157 v158 v159 v160 v161 v162 v163 v164 v165 v166 v167 v168 v169 v170 v171 v172 v173 v174 v175 v176 v177 v178 v179 v180 v181 v182 v183 v184 v185 v186 v187 v188 v189 v190 v191 v192 v193 v194 v195 v196 v197 v198 v199 v200 v201 v202 v203 v204 v205 v206 v207 v208 v209 v210 v211 v212 v213 v214 v215 v216 v217 v218 v219 v220 v221 v222 v223 v224 v225 v226 v227 v228 v229 v230 w' b kk
        have HBF := hide b
        have HKF := hide (HKE1.out.trans kk fun _ _ e => e)
        clear b kk
        go_wp2_with fail
        go_ret2
        exact ⟨rfl, HBF.out, HKF.out⟩
end Go.Proofs.YtdmnflngafbobaaDoor
