/-
  The thin package's FormatHeader and HeaderSize. Conditions: those that stand in each theorem.
-/
import Derived.Test.YtdmnflngafbobaaDoorGMto
namespace Go.Proofs.YtdmnflngafbobaaDoor
open Go.RowKit
set_option linter.unusedVariables false
set_option linter.unusedSimpArgs false
set_option maxRecDepth 100000

theorem rc13 {w : World} {g : Nat} {t : TypeId} {hd : Hd} {sv xv : Value} {off : Int} (h : Blk w g t (rcells hd sv xv off)) :
    w.cell? ⟨g, 0, none⟩ = some (.int .u8 hd.v) ∧ w.cell? ⟨g, 1, none⟩ = some (.bool hd.pad) ∧ w.cell? ⟨g, 2, none⟩ = some (.bool hd.ext) ∧ w.cell? ⟨g, 3, none⟩ = some (.bool hd.mark) ∧ w.cell? ⟨g, 4, none⟩ = some (.int .u8 hd.ty) ∧ w.cell? ⟨g, 5, none⟩ = some (.int .u16 hd.seq) ∧ w.cell? ⟨g, 6, none⟩ = some (.int .u32 hd.time) ∧ w.cell? ⟨g, 7, none⟩ = some (.int .u32 hd.ssrc) ∧ w.cell? ⟨g, 8, none⟩ = some sv ∧ w.cell? ⟨g, 9, none⟩ = some (.int .u16 hd.prof) ∧ w.cell? ⟨g, 10, none⟩ = some xv ∧ w.cell? ⟨g, 11, none⟩ = some (.int .u8 hd.padn) ∧ w.cell? ⟨g, 12, none⟩ = some (.int .i64 off) :=
  ⟨h.cell 0 rfl, h.cell 1 rfl, h.cell 2 rfl, h.cell 3 rfl, h.cell 4 rfl, h.cell 5 rfl, h.cell 6 rfl, h.cell 7 rfl, h.cell 8 rfl, h.cell 9 rfl, h.cell 10 rfl, h.cell 11 rfl, h.cell 12 rfl⟩
theorem hc12 {w : World} {g : Nat} {t : TypeId} {hd : Hd} {sv xv : Value} (h : Blk w g t (hcells hd sv xv)) :
    w.cell? ⟨g, 0, none⟩ = some (.int .u8 hd.v) ∧ w.cell? ⟨g, 1, none⟩ = some (.bool hd.pad) ∧ w.cell? ⟨g, 2, none⟩ = some (.bool hd.ext) ∧ w.cell? ⟨g, 3, none⟩ = some (.bool hd.mark) ∧ w.cell? ⟨g, 4, none⟩ = some (.int .u8 hd.ty) ∧ w.cell? ⟨g, 5, none⟩ = some (.int .u16 hd.seq) ∧ w.cell? ⟨g, 6, none⟩ = some (.int .u32 hd.time) ∧ w.cell? ⟨g, 7, none⟩ = some (.int .u32 hd.ssrc) ∧ w.cell? ⟨g, 8, none⟩ = some sv ∧ w.cell? ⟨g, 9, none⟩ = some (.int .u16 hd.prof) ∧ w.cell? ⟨g, 10, none⟩ = some xv ∧ w.cell? ⟨g, 11, none⟩ = some (.int .u8 hd.padn) :=
  ⟨h.cell 0 rfl, h.cell 1 rfl, h.cell 2 rfl, h.cell 3 rfl, h.cell 4 rfl, h.cell 5 rfl, h.cell 6 rfl, h.cell 7 rfl, h.cell 8 rfl, h.cell 9 rfl, h.cell 10 rfl, h.cell 11 rfl⟩
theorem RP.open_ {w : World} {B g : Nat} {hd : Hd} (h : RP w B g hd) : ∃ sv xv off, Blk w g 108 (rcells hd sv xv off) ∧ Rd w (B ≤ ·) 1 sv hd.srcs.length (U32 hd.srcs) ∧ XR w (B ≤ ·) xv hd.exts := by
  obtain ⟨hg, sv, xv, ds, off, h1, h2, h3, h4⟩ := h
  exact ⟨sv, xv, off, h1, h2.rdB, ds, h4.mono (fun k _ hk => hk.1), h3.rdB⟩

set_option maxHeartbeats 1600000 in
theorem fmth1 {p : Nat → Prop} {hd : Hd} {sv xv : Value} {g1 g2 : Nat} (w : World) (hh : HV w p (.agg (hcells hd sv xv)) hd) (hg : Good hd) (hn : hd.exts.length ≤ 2147483647) (hdn : ∀ x ∈ hd.exts, x.data.length ≤ 2147483647)
    (h1 : Blk w g1 35 (hcells hd sv xv)) (h2 : Blk w g2 29 #[.slice none 0 0]) :
    Calls Tryd.prog 53 #[.pointer (some ⟨g1, 0, none⟩), .pointer (some ⟨g2, 0, none⟩)] w fun e w' => e = .returned (.bool true) ∧ Keep w w' (· = g2) ∧
      ∃ g c, w.heap.size ≤ g ∧ Blk w' g2 29 #[.slice (some ⟨g, 0, none⟩) (outB hd).length c] ∧ Own w' w.heap.size 5 1 (.slice (some ⟨g, 0, none⟩) (outB hd).length c) (outB hd).length (B8 (outB hd)) := by
  have hs : hd.srcs.length ≤ 2147483647 := by have := hg.srcs; omega
  have HH := hide (header_walk w hh hn hs hdn)
  have HD := hide hdn
  have HG := hide hg
  obtain ⟨x0, x1, x2, x3, x4, x5, x6, x7, x8, x9, x10, x11⟩ := hc12 h1
  have hg2 := h2.lt
  have H2 := hide h2
  have hg1 := h1.lt
  obtain ⟨sv', xv', e', q1, q2⟩ := hh
  injection e' with e'
  have es : sv = sv' := by have := congrArg (fun a : Array Value => a[8]?) e'; simpa [hcells] using this
  have ex : xv = xv' := by have := congrArg (fun a : Array Value => a[10]?) e'; simpa [hcells] using this
  subst es ex
  obtain ⟨A1, c1, rfl⟩ := q1.shape
  obtain ⟨A2, c2, rfl⟩ := q2.shape
  clear q1 q2 e' h1 h2 hg hdn
  go_enter Tryd.func53, Tryd.ntmps53
  go_wp2_with fail
  refine Calls.mono (show Calls _ _ #[.agg (hcells hd (.slice A1 hd.srcs.length c1) (.slice A2 hd.exts.length c2))] _ _ from HH.out) ?_
  rintro e w1 ⟨k1, g, rfl, hr⟩
  have hgw := hr.1
  obtain ⟨sv, xv, off, b, r1, r2⟩ := hr.open_
  obtain ⟨A3, c3, rfl⟩ := r1.shape
  obtain ⟨A4, c4, rfl⟩ := r2.shape
  have HM := hide (marshal_walk (off := off) w1 r1 r2 HG.out hn HD.out)
  have K1 := hide k1
  have BG := hide b
  have hz1 := k1.size
  clear x0 x1 x2 x3 x4 x5 x6 x7 x8 x9 x10 x11 hr r1 r2 k1
  obtain ⟨x0, x1, x2, x3, x4, x5, x6, x7, x8, x9, x10, x11, x12⟩ := rc13 b
  clear b
  go_wp2_with fail
  refine Calls.mono (show Calls _ _ #[.agg (rcells hd (.slice A3 hd.srcs.length c3) (.slice A4 hd.exts.length c4) off)] _ _ from HM.out) ?_
  rintro e w2 ⟨gm, cm, rfl, ho, k2⟩
  have hgm : w1.heap.size ≤ gm := (ho.at_ gm rfl).1
  have HO := hide ho
  have K2 := hide (K1.out.trans0 k2)
  have H3 := hide (H2.out.keep K2.out id)
  have f2 := H3.out.free 0
  have c2' := H3.out.cell 0 (v := .slice none 0 0) rfl
  have l2 := H3.out.lt
  clear x0 x1 x2 x3 x4 x5 x6 x7 x8 x9 x10 x11 x12 ho k2
  go_wp2_with fail
  go_ret
  refine ⟨rfl, (K2.out.nul (· = g2)).setg (g := g2) 0 (fun _ => rfl) _, gm, cm, by omega, H3.out.set_ 0 _, ?_⟩
  exact (HO.out.low hz1).keep (Keep.set1 _ _ _ _) (fun i hi e => by simp [Value.ownBlock] at hi; omega)

/-- impl.FormatHeader of a header that is written. -/
theorem fmth_walk {p : Nat → Prop} {v : Value} {hd : Hd} (w : World) (hh : HV w p v hd) (hg : Good hd) (hn : hd.exts.length ≤ 2147483647) (hdn : ∀ x ∈ hd.exts, x.data.length ≤ 2147483647) :
    Calls Tryd.prog 19 #[v] w fun e w' => ∃ A c, e = .returned (.tuple #[.slice A (outB hd).length c, .bool true]) ∧ Own w' w.heap.size 5 1 (.slice A (outB hd).length c) (outB hd).length (B8 (outB hd)) ∧ Keep w w' Nul := by
  have hh0 := hh
  obtain ⟨sv, xv, rfl, q1, q2⟩ := hh
  obtain ⟨A1, c1, rfl⟩ := q1.shape
  obtain ⟨A2, c2, rfl⟩ := q2.shape
  clear q1 q2
  have b1 := (Blk.new w 35 (hcells hd (.slice A1 hd.srcs.length c1) (.slice A2 hd.exts.length c2))).alloc (.cells #[.slice none 0 0] 29)
  have b2 := Blk.new (w.alloc (.cells (hcells hd (.slice A1 hd.srcs.length c1) (.slice A2 hd.exts.length c2)) 35)) 29 #[.slice none 0 0]
  simp only [World.size_alloc] at b2
  have kW : Keep w ((w.alloc (.cells (hcells hd (.slice A1 hd.srcs.length c1) (.slice A2 hd.exts.length c2)) 35)).alloc (.cells #[.slice none 0 0] 29)) Nul := ((Keep.refl w _).alloc _).alloc _
  have hT := hide (try_out (k := 53) (g2 := w.heap.size + 1) (b := true) (R := fun w' => ∃ g c, w.heap.size + 3 ≤ g ∧ Blk w' (w.heap.size + 1) 29 #[.slice (some ⟨g, 0, none⟩) (outB hd).length c] ∧ Own w' (w.heap.size + 3) 5 1 (.slice (some ⟨g, 0, none⟩) (outB hd).length c) (outB hd).length (B8 (outB hd))) (fun _ => by kernel_rfl) (by simp only [World.size_alloc]; omega)
    (fun w1 w2 ⟨g, c, hgl, hb, ho⟩ k => by
      simp only [World.size_alloc] at k
      exact ⟨g, c, hgl, hb.keep k (by omega), ho.keep k (fun i hi e => by simp [Value.ownBlock] at hi; omega)⟩)
    ((fmth1 _ (hh0.keep0 (kW.alloc (.cells #[.bool false] 4))) hg hn hdn (b1.alloc (.cells #[.bool false] 4)) (b2.alloc (.cells #[.bool false] 4))).mono (by
      rintro e w' ⟨rfl, hk, g, c, hgl, hb, ho⟩
      simp only [World.size_alloc] at hgl ho
      exact ⟨rfl, hk, g, c, hgl, hb, ho⟩)))
  have KW := hide kW
  clear kW hh0 hg hdn b1 b2
  unfold hcells at *
  go_enter Tryd.func19, Tryd.ntmps19
  go_wp2_with (refine (hT.out).mono ?_; rintro e w' ⟨rfl, hk, g, c, hgl, hb, ho⟩; have c0 := hb.cell 0 (v := .slice (some ⟨g, 0, none⟩) (outB hd).length c) rfl; have f0 := hb.free 0)
  have c1 := (hb.set_ 0 (.slice (some ⟨g, 0, none⟩) (outB hd).length c)).cell 0 (v := .slice (some ⟨g, 0, none⟩) (outB hd).length c) rfl
  refine bodyPost_ret (v := .tuple #[.slice (some ⟨g, 0, none⟩) (outB hd).length c, .bool true]) (by simp [results, Tryd.results19, go_sem, c1]) rfl ⟨_, _, rfl, ?_, ?_⟩
  · exact (ho.low (by omega)).keep (Keep.set1 _ _ _ _) (fun i hi e => by simp [Value.ownBlock] at hi; omega)
  · exact (KW.out.trans hk (fun i hi e => by omega)).setg _ (fun h => by omega) _

set_option maxHeartbeats 1600000 in
theorem hsz1 {p : Nat → Prop} {hd : Hd} {sv xv : Value} {g1 g2 : Nat} (w : World) (hh : HV w p (.agg (hcells hd sv xv)) hd) (hs : hd.srcs.length ≤ 2147483647) (hn : hd.exts.length ≤ 2147483647) (hdn : ∀ x ∈ hd.exts, x.data.length ≤ 2147483647)
    (h1 : Blk w g1 35 (hcells hd sv xv)) (h2 : Blk w g2 3 #[.int .i64 0]) :
    Calls Tryd.prog 56 #[.pointer (some ⟨g1, 0, none⟩), .pointer (some ⟨g2, 0, none⟩)] w fun e w' => e = .returned (.bool true) ∧ Keep w w' (· = g2) ∧ Blk w' g2 3 #[.int .i64 (hsize hd)] := by
  have HH := hide (header_walk w hh hn hs hdn)
  have HD := hide hdn
  obtain ⟨x0, x1, x2, x3, x4, x5, x6, x7, x8, x9, x10, x11⟩ := hc12 h1
  have hg2 := h2.lt
  have H2 := hide h2
  have hg1 := h1.lt
  obtain ⟨sv', xv', e', q1, q2⟩ := hh
  injection e' with e'
  have es : sv = sv' := by have := congrArg (fun a : Array Value => a[8]?) e'; simpa [hcells] using this
  have ex : xv = xv' := by have := congrArg (fun a : Array Value => a[10]?) e'; simpa [hcells] using this
  subst es ex
  obtain ⟨A1, c1, rfl⟩ := q1.shape
  obtain ⟨A2, c2, rfl⟩ := q2.shape
  clear q1 q2 e' h1 h2 hdn
  go_enter Tryd.func56, Tryd.ntmps56
  go_wp2_with fail
  refine Calls.mono (show Calls _ _ #[.agg (hcells hd (.slice A1 hd.srcs.length c1) (.slice A2 hd.exts.length c2))] _ _ from HH.out) ?_
  rintro e w1 ⟨k1, g, rfl, hr⟩
  obtain ⟨sv, xv, off, b, r1, r2⟩ := hr.open_
  obtain ⟨A3, c3, rfl⟩ := r1.shape
  obtain ⟨A4, c4, rfl⟩ := r2.shape
  have HM := hide (msize_walk (off := off) w1 r1 r2 hs hn HD.out)
  have K1 := hide k1
  clear x0 x1 x2 x3 x4 x5 x6 x7 x8 x9 x10 x11 hr r1 r2 k1
  obtain ⟨x0, x1, x2, x3, x4, x5, x6, x7, x8, x9, x10, x11, x12⟩ := rc13 b
  clear b
  go_wp2_with fail
  refine Calls.mono (show Calls _ _ #[.agg (rcells hd (.slice A3 hd.srcs.length c3) (.slice A4 hd.exts.length c4) off)] _ _ from HM.out) ?_
  rintro e w2 ⟨rfl, k2⟩
  have K2 := hide (K1.out.trans0 k2)
  have H3 := hide (H2.out.keep K2.out id)
  have f2 := H3.out.free 0
  have c2' := H3.out.cell 0 (v := .int .i64 0) rfl
  have l2 := H3.out.lt
  clear x0 x1 x2 x3 x4 x5 x6 x7 x8 x9 x10 x11 x12 k2
  go_wp2_with fail
  go_ret
  exact ⟨rfl, (K2.out.nul (· = g2)).setg (g := g2) 0 (fun _ => rfl) _, H3.out.set_ 0 _⟩

/-- impl.HeaderSize. -/
theorem hsz_walk {p : Nat → Prop} {v : Value} {hd : Hd} (w : World) (hh : HV w p v hd) (hs : hd.srcs.length ≤ 2147483647) (hn : hd.exts.length ≤ 2147483647) (hdn : ∀ x ∈ hd.exts, x.data.length ≤ 2147483647) :
    Calls Tryd.prog 21 #[v] w fun e w' => e = .returned (.int .i64 (hsize hd)) ∧ Keep w w' Nul := by
  have hh0 := hh
  obtain ⟨sv, xv, rfl, q1, q2⟩ := hh
  obtain ⟨A1, c1, rfl⟩ := q1.shape
  obtain ⟨A2, c2, rfl⟩ := q2.shape
  clear q1 q2
  have b1 := (Blk.new w 35 (hcells hd (.slice A1 hd.srcs.length c1) (.slice A2 hd.exts.length c2))).alloc (.cells #[.int .i64 0] 3)
  have b2 := Blk.new (w.alloc (.cells (hcells hd (.slice A1 hd.srcs.length c1) (.slice A2 hd.exts.length c2)) 35)) 3 #[.int .i64 0]
  simp only [World.size_alloc] at b2
  have kW : Keep w ((w.alloc (.cells (hcells hd (.slice A1 hd.srcs.length c1) (.slice A2 hd.exts.length c2)) 35)).alloc (.cells #[.int .i64 0] 3)) Nul := ((Keep.refl w _).alloc _).alloc _
  have hT := hide (try_out (k := 56) (g2 := w.heap.size + 1) (b := true) (R := fun w' => Blk w' (w.heap.size + 1) 3 #[.int .i64 (hsize hd)]) (fun _ => by kernel_rfl) (by simp only [World.size_alloc]; omega)
    (fun w1 w2 hb k => by
      simp only [World.size_alloc] at k
      exact hb.keep k (by omega))
    (hsz1 _ (hh0.keep0 (kW.alloc (.cells #[.bool false] 4))) hs hn hdn (b1.alloc (.cells #[.bool false] 4)) (b2.alloc (.cells #[.bool false] 4))))
  have KW := hide kW
  clear kW hh0 hdn b1 b2
  unfold hcells at *
  go_enter Tryd.func21, Tryd.ntmps21
  go_wp2_with (refine (hT.out).mono ?_; rintro e w' ⟨rfl, hk, hb⟩; have c0 := hb.cell 0 (v := .int .i64 (hsize hd)) rfl; have f0 := hb.free 0)
  have c1 := (hb.set_ 0 (.int .i64 (hsize hd))).cell 0 (v := .int .i64 (hsize hd)) rfl
  refine bodyPost_ret (v := .int .i64 (hsize hd)) (by simp [results, Tryd.results21, go_sem, c1]) rfl ⟨rfl, ?_⟩
  exact (KW.out.trans hk (fun i hi e => by omega)).setg _ (fun h => by omega) _
end Go.Proofs.YtdmnflngafbobaaDoor
