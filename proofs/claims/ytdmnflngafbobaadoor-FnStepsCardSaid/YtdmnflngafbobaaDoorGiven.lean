/-
  given: a header of the reference as one of the thin package. Conditions: those that stand in each theorem.
-/
import Derived.Test.YtdmnflngafbobaaDoorGFmt
import Derived.Deep.Cut
namespace Go.Proofs.YtdmnflngafbobaaDoor
open Go.RowKit
set_option linter.unusedVariables false
set_option linter.unusedSimpArgs false
set_option maxRecDepth 20000

theorem etI : ET Tryd.prog 33 102 (.agg #[.int .u8 0, .slice none 0 0]) 2 32 := ⟨Tryd.underlying33, by kernel_rfl, rfl, by decide⟩

/-- Cells that a literal of one element lays down, to be appended. -/
theorem src_one {P : Program} {tx e e' : TypeId} (hk : P.underlying tx = some (.slice e')) {w : World} {sz : Nat} {cs : Array Value} {g : Nat} (hg : g = w.heap.size) (hn : cs.size = sz) (h1 : ∀ u ∈ cs.toList, u.oneCell' = true) :
    Src P sz tx (.slice (some ⟨g, 0, none⟩) 1 1) 1 cs.toList (w.alloc (.cells cs e)) := by
  subst hg
  exact src_of_rd _ hk (Own.of_lit (e := e) (sz := sz) w cs 1 (by simp [maxLen]) (by omega)).rd h1

theorem Ds.snoc {w : World} {p : Nat → Prop} {xs : List Ex} {ds : List Value} {x : Ex} {d : Value} (h : Ds w p xs ds) (hd : Rd w p 1 d x.data.length (B8 x.data)) : Ds w p (xs ++ [x]) (ds ++ [d]) := by
  refine ⟨by simp [h.1], fun k y e h1 h2 => ?_⟩
  by_cases hk : k < xs.length
  · rw [List.getElem?_append_left hk] at h1
    rw [List.getElem?_append_left (by rw [h.1]; exact hk)] at h2
    exact h.2 k y e h1 h2
  · rw [List.getElem?_append_right (by omega)] at h1
    rw [List.getElem?_append_right (by rw [h.1]; omega), h.1] at h2
    have hk0 : k - xs.length = 0 := by
      have := (List.getElem?_eq_some_iff.1 h1).1
      simp at this; omega
    rw [hk0] at h1 h2
    simp at h1 h2
    subst h1 h2
    exact hd

theorem Blk.new' {w : World} {g : Nat} {t : TypeId} {cs : Array Value} (hg : g = w.heap.size) : Blk (w.alloc (.cells cs t)) g t cs := hg ▸ Blk.new w t cs

/-- The cells of a header that is all noughts. -/
def hzero : Array Value := #[.int .u8 0, .bool false, .bool false, .bool false, .int .u8 0, .int .u16 0, .int .u32 0, .int .u32 0, .slice none 0 0, .int .u16 0, .slice none 0 0, .int .u8 0]

theorem set_all (a0 a1 a2 a3 a4 a5 a6 a7 a8 a9 a10 a11 : Value) : ((((((((((((hzero.setIfInBounds 0 a0).setIfInBounds 1 a1).setIfInBounds 2 a2).setIfInBounds 3 a3).setIfInBounds 4 a4).setIfInBounds 5 a5).setIfInBounds 6 a6).setIfInBounds 7 a7).setIfInBounds 8 a8).setIfInBounds 9 a9).setIfInBounds 10 a10).setIfInBounds 11 a11) = #[a0, a1, a2, a3, a4, a5, a6, a7, a8, a9, a10, a11] := by kernel_rfl

theorem given_walk {p : Nat → Prop} {v : Value} {hd : Hd} (w : World) (hh : HV w p v hd) (hn : hd.exts.length ≤ 2147483647) :
    Calls Tryd.prog 20 #[v] w fun e w' => Keep w w' Nul ∧ ∃ sv xv, e = .returned (.agg (hcells hd sv xv)) ∧ HV w' (fun _ => True) (.agg (hcells hd sv xv)) hd := by
  obtain ⟨sv, xv, rfl, h1, h2⟩ := hh.mono (q := (· < w.heap.size)) (fun k hk _ => hk)
  obtain ⟨A1, c1, rfl⟩ := h1.shape
  obtain ⟨A2, c2, rfl⟩ := h2.shape
  have H1 := hide h1
  have H2 := hide h2
  clear h1 h2
  unfold hcells at *
  go_enter Tryd.func20, Tryd.ntmps20
  go_upto_region 2 with fail
  generalize hwa : World.alloc (World.alloc (World.alloc w _) _) _ = wa
  have B1 := hide (show Blk wa w.heap.size 27 (hcells hd (.slice A1 hd.srcs.length c1) (.slice A2 hd.exts.length c2)) by subst hwa; exact ((Blk.new w _ _).alloc _).alloc _)
  have B3 := hide (show Blk wa (w.heap.size + 2) 35 (hcells hd (.slice A1 hd.srcs.length c1) (.slice none 0 0)) by subst hwa; exact Blk.new' (by simp [World.size_alloc]))
  have B2 := hide (show Blk wa (w.heap.size + 1) 35 hzero by subst hwa; exact Blk.alloc (Blk.new' (by simp [World.size_alloc])) _)
  have HK := hide (show Keep w wa Nul by subst hwa; exact (((Keep.refl w Nul).alloc _).alloc _).alloc _)
  have hsz : wa.heap.size = w.heap.size + 3 := by subst hwa; simp [World.size_alloc]
  have t10 := B1.out.cell 10 (v := .slice A2 hd.exts.length c2) rfl
  generalize hv0 : Value.agg _ = v0
  clear hv0 hwa
  go_wp2_with fail
  go_loopw [32] (fun i wr => ∃ (k : Nat) (u : Value) (ds : List Value), k ≤ hd.exts.length ∧ i = .int .i64 k ∧ Blk wr (w.heap.size + 2) 35 (hcells hd (.slice A1 hd.srcs.length c1) u) ∧ Own wr wa.heap.size 102 2 u k (xcells (hd.exts.take k) ds) ∧ Ds wr (· < w.heap.size) (hd.exts.take k) ds ∧ Keep wa wr (· = w.heap.size + 2)) (fun i _ => hd.exts.length - (intOf i).toNat)
  case atStart => exact ⟨0, .slice none 0 0, [], Nat.zero_le _, rfl, B3.out, Own.nil_ _ _ _ _, ⟨rfl, by simp⟩, Keep.refl _ _⟩
  case round =>
    obtain ⟨k, u, ds, hk, rfl, hB, hO, hD, hK⟩ := hrel
    by_cases hlt : k < hd.exts.length
    · have hg : hd.exts[k]? = some hd.exts[k] := List.getElem?_eq_getElem _
      obtain ⟨b, o, c', d, hv, q1, q2, q3, q4, p5, p6, q7⟩ := H2.out.at_ hg
      injection hv with e1 _ e3
      subst e1 e3
      have HG := hide hg
      clear hg
      generalize hd.exts[k] = x at *
      have hKw : Keep w wr Nul := HK.out.trans hK (fun i hi e => by omega)
      have q5 := hKw.cell id p5
      have q6 := hKw.cell id p6
      obtain ⟨A', c2', rfl⟩ := q7.shape
      have Q7 := hide q7
      have hs := hK.size
      have t3 := hB.cell 10 (v := u) rfl
      have l3 := hB.lt
      obtain ⟨Au, cu, rfl⟩ := hO.rd.shape
      have HNE := hide (hO.ne_ hB (by decide))
      have HB := hide hB
      have HO := hide hO
      have HD := hide hD
      have HKr := hide hK
      have HKw := hide hKw
      clear q7 p5 p6 hB hO hD hK hKw
      go_wp2_with (at_builtin; go_loud (refine wpList_app etI rfl _ _ rfl ((HO.out.alloc _).alloc _) rfl (src_one Tryd.underlying33 (by simp only [World.size_alloc]) rfl (by simp [Value.oneCell'])) rfl (by simp only [maxLen]; omega) (by omega) (by simp; omega) ?_); intro v1 w2 o1 k1 b1 z1 _; go_loud (have hb2 := ((HB.out.alloc _).alloc _).keep k1 HNE.out); have f2 := hb2.free 10; have t2 := hb2.cell 10 (v := .slice Au k cu) rfl; obtain ⟨A9, c9, rfl⟩ := o1.rd.shape)
      have kk : Keep wr w2 (fun g => (Value.slice Au k cu).ownBlock = some g) := (((Keep.refl wr _).alloc _).alloc _).trans k1 fun _ _ e => e
      have hat := HO.out.at_
      have kw : Keep wa w2 (· = w.heap.size + 2) := HKr.out.trans kk fun i hi e => by have := (hat i e).1; omega
      have hd2 := (HD.out.snoc (Q7.out.keep0 HKw.out)).keep kk (fun i hi hp e => by have := (hat i e).1; omega)
      have hb3 := hb2.set_ 10 (.slice A9 (k + 1) c9)
      have kw3 : Keep wa (w2.setCell ⟨w.heap.size + 2, 10, none⟩ (.slice A9 (k + 1) c9)) (· = w.heap.size + 2) := kw.setg 10 (fun _ => rfl) _
      have k3 : Keep w2 (w2.setCell ⟨w.heap.size + 2, 10, none⟩ (.slice A9 (k + 1) c9)) (· = w.heap.size + 2) := Keep.set1 _ _ _ _
      have o3 := o1.keep k3 (fun g hg e => o1.ne_ hb2 (by decide) (e ▸ hg))
      have hd3 := hd2.keep k3 (fun i hi hp e => by omega)
      have HB3 := hide hb3
      have HK3 := hide kw3
      have HO3 := hide o3
      have HD3 := hide hd3
      clear kk hat kw hd2 hb3 kw3 k3 o3 hd3 o1 k1 b1 z1 hb2 f2 t2
      go_roundw
      case rel =>
        refine ⟨k + 1, .slice A9 (k + 1) c9, ds ++ [.slice A' x.data.length c2'], by omega, by go_num, HB3.out, ?_, ?_, HK3.out⟩
        · obtain ⟨hk', e⟩ := List.getElem?_eq_some_iff.1 HG.out
          rw [List.take_succ_eq_append_getElem hk', e, xcells_snoc _ _ _ _ HD.out.1]
          exact HO3.out
        · obtain ⟨hk', e⟩ := List.getElem?_eq_some_iff.1 HG.out
          rw [List.take_succ_eq_append_getElem hk', e]
          exact HD3.out
      case measure => simp [intOf]; omega
    · obtain rfl : k = hd.exts.length := by omega
      rw [List.take_length] at hO hD
      have hKw : Keep w wr Nul := HK.out.trans hK (fun i hi e => by omega)
      obtain ⟨Au, cu, rfl⟩ := hO.rd.shape
      have hb2 := B2.out.keep hK (fun e => by omega)
      have x0 := hB.cell 0 (v := .int .u8 hd.v) rfl
      have x1 := hB.cell 1 (v := .bool hd.pad) rfl
      have x2 := hB.cell 2 (v := .bool hd.ext) rfl
      have x3 := hB.cell 3 (v := .bool hd.mark) rfl
      have x4 := hB.cell 4 (v := .int .u8 hd.ty) rfl
      have x5 := hB.cell 5 (v := .int .u16 hd.seq) rfl
      have x6 := hB.cell 6 (v := .int .u32 hd.time) rfl
      have x7 := hB.cell 7 (v := .int .u32 hd.ssrc) rfl
      have x8 := hB.cell 8 (v := .slice A1 hd.srcs.length c1) rfl
      have x9 := hB.cell 9 (v := .int .u16 hd.prof) rfl
      have x10 := hB.cell 10 (v := .slice Au hd.exts.length cu) rfl
      have x11 := hB.cell 11 (v := .int .u8 hd.padn) rfl
      have y0 := hb2.cell 0 (v := .int .u8 0) rfl
      have y1 := hb2.cell 1 (v := .bool false) rfl
      have y2 := hb2.cell 2 (v := .bool false) rfl
      have y3 := hb2.cell 3 (v := .bool false) rfl
      have y4 := hb2.cell 4 (v := .int .u8 0) rfl
      have y5 := hb2.cell 5 (v := .int .u16 0) rfl
      have y6 := hb2.cell 6 (v := .int .u32 0) rfl
      have y7 := hb2.cell 7 (v := .int .u32 0) rfl
      have y8 := hb2.cell 8 (v := .slice none 0 0) rfl
      have y9 := hb2.cell 9 (v := .int .u16 0) rfl
      have y10 := hb2.cell 10 (v := .slice none 0 0) rfl
      have y11 := hb2.cell 11 (v := .int .u8 0) rfl
      have fr2 := fun i => hb2.free i
      have HK3 := hide hKw
      have HB := hide hB
      have HO := hide hO
      have HD := hide hD
      have HB2 := hide hb2
      clear hK hKw hO hD hb2 hB
      go_wp2_with fail
      have HF := ((((((((((((HB2.out.set_ 0 (.int .u8 hd.v)).set_ 1 (.bool hd.pad)).set_ 2 (.bool hd.ext)).set_ 3 (.bool hd.mark)).set_ 4 (.int .u8 hd.ty)).set_ 5 (.int .u16 hd.seq)).set_ 6 (.int .u32 hd.time)).set_ 7 (.int .u32 hd.ssrc)).set_ 8 (.slice A1 hd.srcs.length c1)).set_ 9 (.int .u16 hd.prof)).set_ 10 (.slice Au hd.exts.length cu)).set_ 11 (.int .u8 hd.padn))
      rw [set_all] at HF
      have hg : w.heap.size + 1 < w.heap.size → Nul (w.heap.size + 1) := fun h => by omega
      have hg' : w.heap.size + 1 < wr.heap.size → (· = w.heap.size + 1) (w.heap.size + 1) := fun _ => rfl
      have KF : Keep w _ Nul := ((((((((((((Keep.setg (g := w.heap.size + 1) HK3.out 0 hg (.int .u8 hd.v)).setg 1 hg (.bool hd.pad)).setg 2 hg (.bool hd.ext)).setg 3 hg (.bool hd.mark)).setg 4 hg (.int .u8 hd.ty)).setg 5 hg (.int .u16 hd.seq)).setg 6 hg (.int .u32 hd.time)).setg 7 hg (.int .u32 hd.ssrc)).setg 8 hg (.slice A1 hd.srcs.length c1)).setg 9 hg (.int .u16 hd.prof)).setg 10 hg (.slice Au hd.exts.length cu)).setg 11 hg (.int .u8 hd.padn))
      have KR := (((((((((((((Keep.refl wr (· = w.heap.size + 1)).setg 0 hg' (.int .u8 hd.v)).setg 1 hg' (.bool hd.pad)).setg 2 hg' (.bool hd.ext)).setg 3 hg' (.bool hd.mark)).setg 4 hg' (.int .u8 hd.ty)).setg 5 hg' (.int .u16 hd.seq)).setg 6 hg' (.int .u32 hd.time)).setg 7 hg' (.int .u32 hd.ssrc)).setg 8 hg' (.slice A1 hd.srcs.length c1)).setg 9 hg' (.int .u16 hd.prof)).setg 10 hg' (.slice Au hd.exts.length cu)).setg 11 hg' (.int .u8 hd.padn))
      have z0 := HF.cell 0 (v := .int .u8 hd.v) rfl
      have z1 := HF.cell 1 (v := .bool hd.pad) rfl
      have z2 := HF.cell 2 (v := .bool hd.ext) rfl
      have z3 := HF.cell 3 (v := .bool hd.mark) rfl
      have z4 := HF.cell 4 (v := .int .u8 hd.ty) rfl
      have z5 := HF.cell 5 (v := .int .u16 hd.seq) rfl
      have z6 := HF.cell 6 (v := .int .u32 hd.time) rfl
      have z7 := HF.cell 7 (v := .int .u32 hd.ssrc) rfl
      have z8 := HF.cell 8 (v := .slice A1 hd.srcs.length c1) rfl
      have z9 := HF.cell 9 (v := .int .u16 hd.prof) rfl
      have z10 := HF.cell 10 (v := .slice Au hd.exts.length cu) rfl
      have z11 := HF.cell 11 (v := .int .u8 hd.padn) rfl
      clear x0 y0 x1 y1 x2 y2 x3 y3 x4 y4 x5 y5 x6 y6 x7 y7 x8 y8 x9 y9 x10 y10 x11 y11
      have hs := HK.out.size
      refine bodyPost_ret (v := .agg (hcells hd (.slice A1 hd.srcs.length c1) (.slice Au hd.exts.length cu))) (by unfold hcells; simp [results, Tryd.results20, go_sem, z0, z1, z2, z3, z4, z5, z6, z7, z8, z9, z10, z11]) rfl ⟨KF, _, _, rfl, _, _, rfl, (H1.out.keep0 KF).mono fun _ _ _ => trivial, ds, (HD.out.keep KR fun i hi hp e => by omega).mono fun _ _ _ => trivial, (HO.out.rd.keep KR fun i hi hp e => by have := (HO.out.at_ i hp).1; omega).mono fun _ _ _ => trivial⟩
theorem etS : ET Tryd.prog 25 66 (.agg #[.int .u8 0, .slice none 0 0]) 2 32 := ⟨Tryd.underlying25, by kernel_rfl, rfl, by decide⟩

theorem lplain_walk {p : Nat → Prop} {v : Value} {hd : Hd} (w : World) (hh : HV w p v hd) (hn : hd.exts.length ≤ 2147483647) :
    Calls Tryd.prog 27 #[v] w fun e w' => Keep w w' Nul ∧ ∃ sv xv, e = .returned (.agg (hcells hd sv xv)) ∧ HV w' (fun _ => True) (.agg (hcells hd sv xv)) hd := by
  obtain ⟨sv, xv, rfl, h1, h2⟩ := hh.mono (q := (· < w.heap.size)) (fun k hk _ => hk)
  obtain ⟨A1, c1, rfl⟩ := h1.shape
  obtain ⟨A2, c2, rfl⟩ := h2.shape
  have H1 := hide h1
  have H2 := hide h2
  clear h1 h2
  unfold hcells at *
  go_enter Tryd.func27, Tryd.ntmps27
  go_upto_region 2 with fail
  generalize hwa : World.alloc (World.alloc (World.alloc w _) _) _ = wa
  have B1 := hide (show Blk wa w.heap.size 35 (hcells hd (.slice A1 hd.srcs.length c1) (.slice A2 hd.exts.length c2)) by subst hwa; exact ((Blk.new w _ _).alloc _).alloc _)
  have B3 := hide (show Blk wa (w.heap.size + 2) 27 (hcells hd (.slice A1 hd.srcs.length c1) (.slice none 0 0)) by subst hwa; exact Blk.new' (by simp [World.size_alloc]))
  have B2 := hide (show Blk wa (w.heap.size + 1) 27 hzero by subst hwa; exact Blk.alloc (Blk.new' (by simp [World.size_alloc])) _)
  have HK := hide (show Keep w wa Nul by subst hwa; exact (((Keep.refl w Nul).alloc _).alloc _).alloc _)
  have hsz : wa.heap.size = w.heap.size + 3 := by subst hwa; simp [World.size_alloc]
  have t10 := B1.out.cell 10 (v := .slice A2 hd.exts.length c2) rfl
  generalize hv0 : Value.agg _ = v0
  clear hv0 hwa
  go_wp2_with fail
  go_loopw [32] (fun i wr => ∃ (k : Nat) (u : Value) (ds : List Value), k ≤ hd.exts.length ∧ i = .int .i64 k ∧ Blk wr (w.heap.size + 2) 27 (hcells hd (.slice A1 hd.srcs.length c1) u) ∧ Own wr wa.heap.size 66 2 u k (xcells (hd.exts.take k) ds) ∧ Ds wr (· < w.heap.size) (hd.exts.take k) ds ∧ Keep wa wr (· = w.heap.size + 2)) (fun i _ => hd.exts.length - (intOf i).toNat)
  case atStart => exact ⟨0, .slice none 0 0, [], Nat.zero_le _, rfl, B3.out, Own.nil_ _ _ _ _, ⟨rfl, by simp⟩, Keep.refl _ _⟩
  case round =>
    obtain ⟨k, u, ds, hk, rfl, hB, hO, hD, hK⟩ := hrel
    by_cases hlt : k < hd.exts.length
    · have hg : hd.exts[k]? = some hd.exts[k] := List.getElem?_eq_getElem _
      obtain ⟨b, o, c', d, hv, q1, q2, q3, q4, p5, p6, q7⟩ := H2.out.at_ hg
      injection hv with e1 _ e3
      subst e1 e3
      have HG := hide hg
      clear hg
      generalize hd.exts[k] = x at *
      have hKw : Keep w wr Nul := HK.out.trans hK (fun i hi e => by omega)
      have q5 := hKw.cell id p5
      have q6 := hKw.cell id p6
      obtain ⟨A', c2', rfl⟩ := q7.shape
      have Q7 := hide q7
      have hs := hK.size
      have t3 := hB.cell 10 (v := u) rfl
      have l3 := hB.lt
      obtain ⟨Au, cu, rfl⟩ := hO.rd.shape
      have HNE := hide (hO.ne_ hB (by decide))
      have HB := hide hB
      have HO := hide hO
      have HD := hide hD
      have HKr := hide hK
      have HKw := hide hKw
      clear q7 p5 p6 hB hO hD hK hKw
      go_wp2_with (at_builtin; go_loud (refine wpList_app etS rfl _ _ rfl ((HO.out.alloc _).alloc _) rfl (src_one Tryd.underlying25 (by simp only [World.size_alloc]) rfl (by simp [Value.oneCell'])) rfl (by simp only [maxLen]; omega) (by omega) (by simp; omega) ?_); intro v1 w2 o1 k1 b1 z1 _; go_loud (have hb2 := ((HB.out.alloc _).alloc _).keep k1 HNE.out); have f2 := hb2.free 10; have t2 := hb2.cell 10 (v := .slice Au k cu) rfl; obtain ⟨A9, c9, rfl⟩ := o1.rd.shape)
      have kk : Keep wr w2 (fun g => (Value.slice Au k cu).ownBlock = some g) := (((Keep.refl wr _).alloc _).alloc _).trans k1 fun _ _ e => e
      have hat := HO.out.at_
      have kw : Keep wa w2 (· = w.heap.size + 2) := HKr.out.trans kk fun i hi e => by have := (hat i e).1; omega
      have hd2 := (HD.out.snoc (Q7.out.keep0 HKw.out)).keep kk (fun i hi hp e => by have := (hat i e).1; omega)
      have hb3 := hb2.set_ 10 (.slice A9 (k + 1) c9)
      have kw3 : Keep wa (w2.setCell ⟨w.heap.size + 2, 10, none⟩ (.slice A9 (k + 1) c9)) (· = w.heap.size + 2) := kw.setg 10 (fun _ => rfl) _
      have k3 : Keep w2 (w2.setCell ⟨w.heap.size + 2, 10, none⟩ (.slice A9 (k + 1) c9)) (· = w.heap.size + 2) := Keep.set1 _ _ _ _
      have o3 := o1.keep k3 (fun g hg e => o1.ne_ hb2 (by decide) (e ▸ hg))
      have hd3 := hd2.keep k3 (fun i hi hp e => by omega)
      have HB3 := hide hb3
      have HK3 := hide kw3
      have HO3 := hide o3
      have HD3 := hide hd3
      clear kk hat kw hd2 hb3 kw3 k3 o3 hd3 o1 k1 b1 z1 hb2 f2 t2
      go_roundw
      case rel =>
        refine ⟨k + 1, .slice A9 (k + 1) c9, ds ++ [.slice A' x.data.length c2'], by omega, by go_num, HB3.out, ?_, ?_, HK3.out⟩
        · obtain ⟨hk', e⟩ := List.getElem?_eq_some_iff.1 HG.out
          rw [List.take_succ_eq_append_getElem hk', e, xcells_snoc _ _ _ _ HD.out.1]
          exact HO3.out
        · obtain ⟨hk', e⟩ := List.getElem?_eq_some_iff.1 HG.out
          rw [List.take_succ_eq_append_getElem hk', e]
          exact HD3.out
      case measure => simp [intOf]; omega
    · obtain rfl : k = hd.exts.length := by omega
      rw [List.take_length] at hO hD
      have hKw : Keep w wr Nul := HK.out.trans hK (fun i hi e => by omega)
      obtain ⟨Au, cu, rfl⟩ := hO.rd.shape
      have hb2 := B2.out.keep hK (fun e => by omega)
      have x0 := hB.cell 0 (v := .int .u8 hd.v) rfl
      have x1 := hB.cell 1 (v := .bool hd.pad) rfl
      have x2 := hB.cell 2 (v := .bool hd.ext) rfl
      have x3 := hB.cell 3 (v := .bool hd.mark) rfl
      have x4 := hB.cell 4 (v := .int .u8 hd.ty) rfl
      have x5 := hB.cell 5 (v := .int .u16 hd.seq) rfl
      have x6 := hB.cell 6 (v := .int .u32 hd.time) rfl
      have x7 := hB.cell 7 (v := .int .u32 hd.ssrc) rfl
      have x8 := hB.cell 8 (v := .slice A1 hd.srcs.length c1) rfl
      have x9 := hB.cell 9 (v := .int .u16 hd.prof) rfl
      have x10 := hB.cell 10 (v := .slice Au hd.exts.length cu) rfl
      have x11 := hB.cell 11 (v := .int .u8 hd.padn) rfl
      have y0 := hb2.cell 0 (v := .int .u8 0) rfl
      have y1 := hb2.cell 1 (v := .bool false) rfl
      have y2 := hb2.cell 2 (v := .bool false) rfl
      have y3 := hb2.cell 3 (v := .bool false) rfl
      have y4 := hb2.cell 4 (v := .int .u8 0) rfl
      have y5 := hb2.cell 5 (v := .int .u16 0) rfl
      have y6 := hb2.cell 6 (v := .int .u32 0) rfl
      have y7 := hb2.cell 7 (v := .int .u32 0) rfl
      have y8 := hb2.cell 8 (v := .slice none 0 0) rfl
      have y9 := hb2.cell 9 (v := .int .u16 0) rfl
      have y10 := hb2.cell 10 (v := .slice none 0 0) rfl
      have y11 := hb2.cell 11 (v := .int .u8 0) rfl
      have fr2 := fun i => hb2.free i
      have HK3 := hide hKw
      have HB := hide hB
      have HO := hide hO
      have HD := hide hD
      have HB2 := hide hb2
      clear hK hKw hO hD hb2 hB
      go_wp2_with fail
      have HF := ((((((((((((HB2.out.set_ 0 (.int .u8 hd.v)).set_ 1 (.bool hd.pad)).set_ 2 (.bool hd.ext)).set_ 3 (.bool hd.mark)).set_ 4 (.int .u8 hd.ty)).set_ 5 (.int .u16 hd.seq)).set_ 6 (.int .u32 hd.time)).set_ 7 (.int .u32 hd.ssrc)).set_ 8 (.slice A1 hd.srcs.length c1)).set_ 9 (.int .u16 hd.prof)).set_ 10 (.slice Au hd.exts.length cu)).set_ 11 (.int .u8 hd.padn))
      rw [set_all] at HF
      have hg : w.heap.size + 1 < w.heap.size → Nul (w.heap.size + 1) := fun h => by omega
      have hg' : w.heap.size + 1 < wr.heap.size → (· = w.heap.size + 1) (w.heap.size + 1) := fun _ => rfl
      have KF : Keep w _ Nul := ((((((((((((Keep.setg (g := w.heap.size + 1) HK3.out 0 hg (.int .u8 hd.v)).setg 1 hg (.bool hd.pad)).setg 2 hg (.bool hd.ext)).setg 3 hg (.bool hd.mark)).setg 4 hg (.int .u8 hd.ty)).setg 5 hg (.int .u16 hd.seq)).setg 6 hg (.int .u32 hd.time)).setg 7 hg (.int .u32 hd.ssrc)).setg 8 hg (.slice A1 hd.srcs.length c1)).setg 9 hg (.int .u16 hd.prof)).setg 10 hg (.slice Au hd.exts.length cu)).setg 11 hg (.int .u8 hd.padn))
      have KR := (((((((((((((Keep.refl wr (· = w.heap.size + 1)).setg 0 hg' (.int .u8 hd.v)).setg 1 hg' (.bool hd.pad)).setg 2 hg' (.bool hd.ext)).setg 3 hg' (.bool hd.mark)).setg 4 hg' (.int .u8 hd.ty)).setg 5 hg' (.int .u16 hd.seq)).setg 6 hg' (.int .u32 hd.time)).setg 7 hg' (.int .u32 hd.ssrc)).setg 8 hg' (.slice A1 hd.srcs.length c1)).setg 9 hg' (.int .u16 hd.prof)).setg 10 hg' (.slice Au hd.exts.length cu)).setg 11 hg' (.int .u8 hd.padn))
      have z0 := HF.cell 0 (v := .int .u8 hd.v) rfl
      have z1 := HF.cell 1 (v := .bool hd.pad) rfl
      have z2 := HF.cell 2 (v := .bool hd.ext) rfl
      have z3 := HF.cell 3 (v := .bool hd.mark) rfl
      have z4 := HF.cell 4 (v := .int .u8 hd.ty) rfl
      have z5 := HF.cell 5 (v := .int .u16 hd.seq) rfl
      have z6 := HF.cell 6 (v := .int .u32 hd.time) rfl
      have z7 := HF.cell 7 (v := .int .u32 hd.ssrc) rfl
      have z8 := HF.cell 8 (v := .slice A1 hd.srcs.length c1) rfl
      have z9 := HF.cell 9 (v := .int .u16 hd.prof) rfl
      have z10 := HF.cell 10 (v := .slice Au hd.exts.length cu) rfl
      have z11 := HF.cell 11 (v := .int .u8 hd.padn) rfl
      clear x0 y0 x1 y1 x2 y2 x3 y3 x4 y4 x5 y5 x6 y6 x7 y7 x8 y8 x9 y9 x10 y10 x11 y11
      have hs := HK.out.size
      refine bodyPost_ret (v := .agg (hcells hd (.slice A1 hd.srcs.length c1) (.slice Au hd.exts.length cu))) (by unfold hcells; simp [results, Tryd.results27, go_sem, z0, z1, z2, z3, z4, z5, z6, z7, z8, z9, z10, z11]) rfl ⟨KF, _, _, rfl, _, _, rfl, (H1.out.keep0 KF).mono fun _ _ _ => trivial, ds, (HD.out.keep KR fun i hi hp e => by omega).mono fun _ _ _ => trivial, (HO.out.rd.keep KR fun i hi hp e => by have := (HO.out.at_ i hp).1; omega).mono fun _ _ _ => trivial⟩
end Go.Proofs.YtdmnflngafbobaaDoor
