/-
  impl.CloneOf. Conditions: those that stand in each theorem.
-/
import Derived.Test.YtdmnflngafbobaaCloneOf
namespace Go.Proofs.Ytdmnflngafbobaa
open Go.RowKit
set_option linter.unusedVariables false
set_option linter.unusedSimpArgs false
set_option maxRecDepth 20000

set_option maxHeartbeats 3200000 in
theorem cloneof_walk {p : Nat → Prop} {v : Value} {hd : Hd} (w : World) (hh : HV w p v hd) (hn : hd.exts.length ≤ 2147483647) (hs : hd.srcs.length ≤ 2147483647) (hdn : ∀ x ∈ hd.exts, x.data.length ≤ 2147483647) :
    Calls Try.prog 8 #[v] w fun e w' => Keep w w' Nul ∧ ∃ sv xv, e = .returned (.agg (hcells hd sv xv)) ∧ HV w' (fun _ => True) (.agg (hcells hd sv xv)) hd := by
  have HD := hide hdn
  have HH := hide hh
  obtain ⟨sv, xv, rfl, h1, h2⟩ := hh
  obtain ⟨A1, c1, rfl⟩ := h1.shape
  obtain ⟨A2, c2, rfl⟩ := h2.shape
  clear h1 h2 hdn
  unfold hcells at *
  go_enter Try.func8, Try.ntmps8
  go_upto_region 1 with fail
  generalize hwa : World.alloc (World.alloc w _) _ = wa
  have B1 := hide (show Blk wa w.heap.size 36 (hcells hd (.slice A1 hd.srcs.length c1) (.slice A2 hd.exts.length c2)) by subst hwa; exact (Blk.new w _ _).alloc _)
  have B2 := hide (show Blk wa (w.heap.size + 1) 36 hzero by subst hwa; exact Blk.new' (by simp [World.size_alloc]))
  have HK := hide (show Keep w wa Nul by subst hwa; exact ((Keep.refl w Nul).alloc _).alloc _)
  have HSZ := hide (show wa.heap.size = w.heap.size + 2 by subst hwa; simp [World.size_alloc])
  have hC := hide (header_walk wa (HH.out.keep0 HK.out) hn hs HD.out)
  generalize hv0 : Value.agg _ = v0
  clear hwa
  have x0 := B1.out.cell 0 (v := .int .u8 hd.v) rfl
  have x1 := B1.out.cell 1 (v := .bool hd.pad) rfl
  have x2 := B1.out.cell 2 (v := .bool hd.ext) rfl
  have x3 := B1.out.cell 3 (v := .bool hd.mark) rfl
  have x4 := B1.out.cell 4 (v := .int .u8 hd.ty) rfl
  have x5 := B1.out.cell 5 (v := .int .u16 hd.seq) rfl
  have x6 := B1.out.cell 6 (v := .int .u32 hd.time) rfl
  have x7 := B1.out.cell 7 (v := .int .u32 hd.ssrc) rfl
  have x8 := B1.out.cell 8 (v := .slice A1 hd.srcs.length c1) rfl
  have x9 := B1.out.cell 9 (v := .int .u16 hd.prof) rfl
  have x10 := B1.out.cell 10 (v := .slice A2 hd.exts.length c2) rfl
  have x11 := B1.out.cell 11 (v := .int .u8 hd.padn) rfl
  go_wp2_with fail
  rw [← hv0] at *
  refine hC.out.mono ?_
  rintro e w1 ⟨k1, g, rfl, hgB, sv1, xv1, ds1, off1, hb1, ho1, hx1, hd1⟩
  obtain ⟨A3, c3, rfl⟩ := ho1.rd.shape
  obtain ⟨A4, c4, rfl⟩ := hx1.rd.shape
  have hC2 := hide (hclone_walk w1 (off := off1) (ho1.rd.mono (q := fun _ => True) fun _ _ _ => trivial) ⟨ds1, hd1.mono (q := fun _ => True) fun _ _ _ => trivial, hx1.rd.mono fun _ _ _ => trivial⟩ hn hs HD.out)
  clear x0 x1 x2 x3 x4 x5 x6 x7 x8 x9 x10 x11
  have x0 := hb1.cell 0 (v := .int .u8 hd.v) rfl
  have x1 := hb1.cell 1 (v := .bool hd.pad) rfl
  have x2 := hb1.cell 2 (v := .bool hd.ext) rfl
  have x3 := hb1.cell 3 (v := .bool hd.mark) rfl
  have x4 := hb1.cell 4 (v := .int .u8 hd.ty) rfl
  have x5 := hb1.cell 5 (v := .int .u16 hd.seq) rfl
  have x6 := hb1.cell 6 (v := .int .u32 hd.time) rfl
  have x7 := hb1.cell 7 (v := .int .u32 hd.ssrc) rfl
  have x8 := hb1.cell 8 (v := .slice A3 hd.srcs.length c3) rfl
  have x9 := hb1.cell 9 (v := .int .u16 hd.prof) rfl
  have x10 := hb1.cell 10 (v := .slice A4 hd.exts.length c4) rfl
  have x11 := hb1.cell 11 (v := .int .u8 hd.padn) rfl
  have x12 := hb1.cell 12 (v := .int .i64 off1) rfl
  have lg := hb1.lt
  have K1 := hide k1
  clear k1 hgB hb1 ho1 hx1 hd1 hC
  unfold rcells at *
  go_wp2_with fail
  refine hC2.out.mono ?_
  rintro e w2 ⟨k2, sv2, xv2, rfl, r2, q2⟩
  obtain ⟨A5, c5, rfl⟩ := r2.shape
  obtain ⟨A6, c6, rfl⟩ := q2.shape
  have K2 := hide k2
  have R2 := hide r2
  have Q2 := hide q2
  clear k2 r2 q2 hC2 lg x0 x1 x2 x3 x4 x5 x6 x7 x8 x9 x10 x11 x12
  go_upto_region 2 with fail
  generalize hwb : World.alloc w2 _ = wb
  have BB := hide (show Blk wb w2.heap.size 45 (rcells hd (.slice A5 hd.srcs.length c5) (.slice A6 hd.exts.length c6) off1) by subst hwb; exact Blk.new _ _ _)
  have KB := hide (show Keep w2 wb Nul by subst hwb; exact (Keep.refl _ _).alloc _)
  have hP := hide (iplain_walk wb BB.out (R2.out.keep0 KB.out) (Q2.out.keep0 KB.out) hn hs HD.out)
  have KW := hide (((HK.out.trans0 K1.out).trans0 K2.out).trans0 KB.out)
  have B2b := hide (((B2.out.keep K1.out id).keep K2.out id).keep KB.out id)
  clear hwb
  go_wp2_with fail
  refine hP.out.mono ?_
  rintro e w3 ⟨k3, sv3, xv3, rfl, hv3⟩
  obtain ⟨sv4, xv4, he, r3, q3⟩ := hv3
  obtain ⟨A7, c7, rfl⟩ := r3.shape
  obtain ⟨A8, c8, rfl⟩ := q3.shape
  have hsv : sv3 = .slice A7 hd.srcs.length c7 ∧ xv3 = .slice A8 hd.exts.length c8 := by
    unfold hcells at he
    simp at he
    exact he
  obtain ⟨rfl, rfl⟩ := hsv
  have hb2 := B2b.out.keep k3 id
  have y0 := hb2.cell 0 (v := .int .u8 0) rfl
  have y1 := hb2.cell 1 (v := .bool false) rfl
  have y2 := hb2.cell 2 (v := .bool false) rfl
  have y3 := hb2.cell 3 (v := .bool false) rfl
  have y4 := hb2.cell 4 (v := .int .u8 0) rfl
  have y5 := hb2.cell 5 (v := .int .u16 0) rfl
  have y6 := hb2.cell 6 (v := .int .u32 0) rfl
  have y7 := hb2.cell 7 (v := .int .u32 0) rfl
  have y8 := hb2.cell 8 (v := .slice none 0 0) rfl
  have y9 := hb2.cell 9 (v := .int .u16 0) rfl
  have y10 := hb2.cell 10 (v := .slice none 0 0) rfl
  have y11 := hb2.cell 11 (v := .int .u8 0) rfl
  have fr2 := fun i => hb2.free i
  have HB2 := hide hb2
  have K3 := hide (KW.out.trans0 k3)
  have R3 := hide r3
  have Q3 := hide q3
  have hz3 := hide KW.out.size
  clear k3 r3 q3 hb2 hP he
  unfold hcells at *
  go_wp2_with fail
  have HF := ((((((((((((HB2.out.set_ 0 (.int .u8 hd.v)).set_ 1 (.bool hd.pad)).set_ 2 (.bool hd.ext)).set_ 3 (.bool hd.mark)).set_ 4 (.int .u8 hd.ty)).set_ 5 (.int .u16 hd.seq)).set_ 6 (.int .u32 hd.time)).set_ 7 (.int .u32 hd.ssrc)).set_ 8 (.slice A7 hd.srcs.length c7)).set_ 9 (.int .u16 hd.prof)).set_ 10 (.slice A8 hd.exts.length c8)).set_ 11 (.int .u8 hd.padn))
  rw [set_all] at HF
  have hg : w.heap.size + 1 < w.heap.size → Nul (w.heap.size + 1) := fun h => by omega
  have hg' : w.heap.size + 1 < w3.heap.size → (· = w.heap.size + 1) (w.heap.size + 1) := fun _ => rfl
  have KF : Keep w _ Nul := (((((((((((Keep.setg (g := w.heap.size + 1) K3.out 0 hg (.int .u8 hd.v)).setg 1 hg (.bool hd.pad)).setg 2 hg (.bool hd.ext)).setg 3 hg (.bool hd.mark)).setg 4 hg (.int .u8 hd.ty)).setg 5 hg (.int .u16 hd.seq)).setg 6 hg (.int .u32 hd.time)).setg 7 hg (.int .u32 hd.ssrc)).setg 8 hg (.slice A7 hd.srcs.length c7)).setg 9 hg (.int .u16 hd.prof)).setg 10 hg (.slice A8 hd.exts.length c8)).setg 11 hg (.int .u8 hd.padn)
  have KR := ((((((((((((Keep.refl w3 (· = w.heap.size + 1)).setg 0 hg' (.int .u8 hd.v)).setg 1 hg' (.bool hd.pad)).setg 2 hg' (.bool hd.ext)).setg 3 hg' (.bool hd.mark)).setg 4 hg' (.int .u8 hd.ty)).setg 5 hg' (.int .u16 hd.seq)).setg 6 hg' (.int .u32 hd.time)).setg 7 hg' (.int .u32 hd.ssrc)).setg 8 hg' (.slice A7 hd.srcs.length c7)).setg 9 hg' (.int .u16 hd.prof)).setg 10 hg' (.slice A8 hd.exts.length c8)).setg 11 hg' (.int .u8 hd.padn)
  have z0 := HF.cell 0 (v := .int .u8 hd.v) rfl
  have z1 := HF.cell 1 (v := .bool hd.pad) rfl
  have z2 := HF.cell 2 (v := .bool hd.ext) rfl
  have z3 := HF.cell 3 (v := .bool hd.mark) rfl
  have z4 := HF.cell 4 (v := .int .u8 hd.ty) rfl
  have z5 := HF.cell 5 (v := .int .u16 hd.seq) rfl
  have z6 := HF.cell 6 (v := .int .u32 hd.time) rfl
  have z7 := HF.cell 7 (v := .int .u32 hd.ssrc) rfl
  have z8 := HF.cell 8 (v := .slice A7 hd.srcs.length c7) rfl
  have z9 := HF.cell 9 (v := .int .u16 hd.prof) rfl
  have z10 := HF.cell 10 (v := .slice A8 hd.exts.length c8) rfl
  have z11 := HF.cell 11 (v := .int .u8 hd.padn) rfl
  clear y0 y1 y2 y3 y4 y5 y6 y7 y8 y9 y10 y11
  have hsz := HSZ.out
  have hbw : w.heap.size + 1 < wb.heap.size := by have := HK.out.size; have := K1.out.size; have := K2.out.size; have := KB.out.size; omega
  refine bodyPost_ret (v := .agg (hcells hd (.slice A7 hd.srcs.length c7) (.slice A8 hd.exts.length c8))) (by unfold hcells; simp [results, Try.results8, go_sem, z0, z1, z2, z3, z4, z5, z6, z7, z8, z9, z10, z11]) rfl ⟨KF, _, _, rfl, _, _, rfl, (R3.out.keep KR fun i hi hp e => by omega).mono fun _ _ _ => trivial, (Q3.out.keep KR fun i hi hp e => by omega).mono fun _ _ _ => trivial⟩
end Go.Proofs.Ytdmnflngafbobaa
