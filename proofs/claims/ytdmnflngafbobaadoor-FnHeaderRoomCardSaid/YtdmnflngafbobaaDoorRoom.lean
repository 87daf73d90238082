/-
  A header written into a buffer of a given size. Conditions: those that stand in each theorem.
-/
import Derived.Test.YtdmnflngafbobaaDoorFmh
import Derived.BigQuiet
import Derived.Deep.QuietTactic
namespace Go.Proofs.YtdmnflngafbobaaDoor
open Go.RowKit
set_option linter.unusedVariables false
set_option linter.unusedSimpArgs false
set_option maxRecDepth 100000

set_option maxHeartbeats 1600000 in
theorem mto_short {p : Nat → Prop} {hd : Hd} {sv xv : Value} {off : Int} {A : Option Addr} {n c : Nat} (w : World) (hS : Rd w p 1 sv hd.srcs.length (U32 hd.srcs)) (hX : XR w p xv hd.exts) (hs : hd.srcs.length ≤ 2147483647) (hL : n < hsize hd) (hn : hd.exts.length ≤ 2147483647) (hdn : ∀ x ∈ hd.exts, x.data.length ≤ 2147483647) {te : TypeId} {ve : Value} (he : w.cell? ⟨4, 0, none⟩ = some (.iface te ve)) :
    Calls Tryd.prog 73 #[.agg (rcells hd sv xv off), .slice A n c] w fun e w' => e = .returned (.tuple #[.int .i64 0, .iface te ve]) ∧ Keep w w' Nul := by
  have hM0 := fun (wa : World) (k : Keep w wa Nul) => msize_walk (off := off) wa (hS.keep0 k) (hX.keep0 k) hs hn hdn
  have HM := hide hM0
  have HE := hide he
  obtain ⟨A1, c1, rfl⟩ := hS.shape
  obtain ⟨A2, c2, rfl⟩ := hX.shape
  clear hS hX hdn hM0 he
  have hLi : (n : Int) < (hsize hd : Nat) := by omega
  have HRC : (rcells hd (.slice A1 hd.srcs.length c1) (.slice A2 hd.exts.length c2) off) = #[.int .u8 hd.v, .bool hd.pad, .bool hd.ext, .bool hd.mark, .int .u8 hd.ty, .int .u16 hd.seq, .int .u32 hd.time, .int .u32 hd.ssrc, .slice A1 hd.srcs.length c1, .int .u16 hd.prof, .slice A2 hd.exts.length c2, .int .u8 hd.padn, .int .i64 off] := rfl
  rw [HRC]
  go_enter Tryd.func73, Tryd.ntmps73
  go_upto_region 1 with fail
  generalize hwa : World.alloc w _ = wa
  have BX := hide (show Blk wa w.heap.size 108 (rcells hd (.slice A1 hd.srcs.length c1) (.slice A2 hd.exts.length c2) off) by subst hwa; exact Blk.new w _ _)
  have KA := hide (show Keep w wa Nul by subst hwa; exact (Keep.refl w Nul).alloc _)
  generalize hv0 : Value.agg _ = v0
  have hM := hide (HM.out wa KA.out)
  clear hwa HRC hv0
  obtain ⟨x0, x1, x2, x3, x4, x5, x6, x7, x8, x9, x10, x11, x12⟩ := rc13 BX.out
  go_wp2_with fail
  refine Calls.mono (show Calls _ _ #[.agg (rcells hd (.slice A1 hd.srcs.length c1) (.slice A2 hd.exts.length c2) off)] _ _ from hM.out) ?_
  rintro e w1 ⟨rfl, k1⟩
  have K1 := hide (KA.out.trans0 k1)
  clear x0 x1 x2 x3 x4 x5 x6 x7 x8 x9 x10 x11 x12 k1
  have q4 : ∀ m, (w1.drewN m).cell? ⟨4, 0, none⟩ = some (.iface te ve) := fun m => (K1.out.drewN m).cell id HE.out
  go_upto_region 3 with fail
  go_quiet (fail)
  go_wp2_with fail
  go_ret2
  exact ⟨rfl, K1.out.drewN _⟩

set_option maxHeartbeats 1600000 in
theorem room1_short {p : Nat → Prop} {hd : Hd} {sv xv : Value} {g0 g1 g2 L : Nat} (w : World) (hh : HV w p (.agg (hcells hd sv xv)) hd) (hs : hd.srcs.length ≤ 2147483647) (hn : hd.exts.length ≤ 2147483647) (hdn : ∀ x ∈ hd.exts, x.data.length ≤ 2147483647) (hL : L < hsize hd) (hLm : L ≤ 4096) {te : TypeId} {ve : Value} (he : w.cell? ⟨4, 0, none⟩ = some (.iface te ve))
    (h0 : Blk w g0 3 #[.int .i64 L]) (h1 : Blk w g1 35 (hcells hd sv xv)) (h2 : Blk w g2 29 #[.slice none 0 0]) :
    Calls Tryd.prog 72 #[.pointer (some ⟨g0, 0, none⟩), .pointer (some ⟨g1, 0, none⟩), .pointer (some ⟨g2, 0, none⟩)] w fun e w' => e = .returned (.bool false) ∧ Keep w w' Nul := by
  have HD := hide hdn
  have HE := hide he
  have hh0 := hh
  obtain ⟨sv', xv', e', q1, q2⟩ := hh
  injection e' with e'
  have es : sv = sv' := by have := congrArg (fun a : Array Value => a[8]?) e'; simpa [hcells] using this
  have ex : xv = xv' := by have := congrArg (fun a : Array Value => a[10]?) e'; simpa [hcells] using this
  subst es ex
  obtain ⟨A1, c1, rfl⟩ := q1.shape
  obtain ⟨A2, c2, rfl⟩ := q2.shape
  have HH := hide hh0
  have H1 := hide h1
  have c0 := h0.cell 0 (v := .int .i64 L) rfl
  have mkB := run_mk etB L (by omega) (by omega)
  simp only [Nat.mul_one] at mkB
  clear q1 q2 e' h0 h1 h2 hdn he hh0
  go_enter Tryd.func72, Tryd.ntmps72
  go_upto_region 2 with fail
  generalize hwa : World.alloc w _ = wa
  have KA := hide (show Keep w wa Nul by subst hwa; exact (Keep.refl w Nul).alloc _)
  clear hwa mkB c0
  have hHd := hide (header_walk wa (HH.out.keep0 KA.out) hn hs HD.out)
  obtain ⟨x0, x1, x2, x3, x4, x5, x6, x7, x8, x9, x10, x11⟩ := hc12 (H1.out.keep KA.out id)
  go_wp2_with fail
  refine Calls.mono (show Calls _ _ #[.agg (hcells hd (.slice A1 hd.srcs.length c1) (.slice A2 hd.exts.length c2))] _ _ from hHd.out) ?_
  rintro e w1 ⟨k1, g, rfl, hr⟩
  obtain ⟨sv, xv, off, b, r1, r2⟩ := hr.open_
  obtain ⟨A3, c3, rfl⟩ := r1.shape
  obtain ⟨A4, c4, rfl⟩ := r2.shape
  have K1 := hide (KA.out.trans0 k1)
  have hMs := hide (mto_short (off := off) (A := some ⟨w.heap.size, 0, none⟩) (n := L) (c := L) w1 r1 r2 hs hL hn HD.out (K1.out.cell id HE.out))
  clear x0 x1 x2 x3 x4 x5 x6 x7 x8 x9 x10 x11 hr r1 r2 k1
  obtain ⟨x0, x1, x2, x3, x4, x5, x6, x7, x8, x9, x10, x11, x12⟩ := rc13 b
  clear b
  go_wp2_with fail
  refine Calls.mono (show Calls _ _ #[.agg (rcells hd (.slice A3 hd.srcs.length c3) (.slice A4 hd.exts.length c4) off), _] _ _ from hMs.out) ?_
  rintro e w2 ⟨rfl, k2⟩
  have K2 := hide (K1.out.trans0 k2)
  clear x0 x1 x2 x3 x4 x5 x6 x7 x8 x9 x10 x11 x12 k2
  go_wp2_with fail
  go_ret
  exact ⟨rfl, K2.out⟩

set_option maxHeartbeats 1600000 in
theorem room1_good {p : Nat → Prop} {hd : Hd} {sv xv : Value} {g0 g1 g2 L : Nat} (w : World) (hh : HV w p (.agg (hcells hd sv xv)) hd) (hg : Good hd) (hn : hd.exts.length ≤ 2147483647) (hdn : ∀ x ∈ hd.exts, x.data.length ≤ 2147483647) (hL : hsize hd ≤ L) (hLm : L ≤ 4096)
    (h0 : Blk w g0 3 #[.int .i64 L]) (h1 : Blk w g1 35 (hcells hd sv xv)) (h2 : Blk w g2 29 #[.slice none 0 0]) :
    Calls Tryd.prog 72 #[.pointer (some ⟨g0, 0, none⟩), .pointer (some ⟨g1, 0, none⟩), .pointer (some ⟨g2, 0, none⟩)] w fun e w' => e = .returned (.bool true) ∧ Keep w w' (· = g2) ∧
      ∃ g c, w.heap.size ≤ g ∧ Blk w' g2 29 #[.slice (some ⟨g, 0, none⟩) (outB hd).length c] ∧ Own w' w.heap.size 5 1 (.slice (some ⟨g, 0, none⟩) (outB hd).length c) (outB hd).length (B8 (outB hd)) := by
  have hs : hd.srcs.length ≤ 2147483647 := by have := hg.srcs; omega
  have HD := hide hdn
  have HG := hide hg
  have hh0 := hh
  obtain ⟨sv', xv', e', q1, q2⟩ := hh
  injection e' with e'
  have es : sv = sv' := by have := congrArg (fun a : Array Value => a[8]?) e'; simpa [hcells] using this
  have ex : xv = xv' := by have := congrArg (fun a : Array Value => a[10]?) e'; simpa [hcells] using this
  subst es ex
  obtain ⟨A1, c1, rfl⟩ := q1.shape
  obtain ⟨A2, c2, rfl⟩ := q2.shape
  have HH := hide hh0
  have H1 := hide h1
  have hg2 := h2.lt
  have H2 := hide h2
  have c0 := h0.cell 0 (v := .int .i64 L) rfl
  have mkB := run_mk etB L (by omega) (by omega)
  simp only [Nat.mul_one] at mkB
  clear q1 q2 e' h0 h1 h2 hg hdn hh0
  go_enter Tryd.func72, Tryd.ntmps72
  go_upto_region 2 with fail
  generalize hwa : World.alloc w _ = wa
  have KA := hide (show Keep w wa Nul by subst hwa; exact (Keep.refl w Nul).alloc _)
  have BB := hide (show Buf wa w.heap.size [] (Z8 L) by subst hwa; exact Buf.mk' (Blk.new w _ _))
  have hza : wa.heap.size = w.heap.size + 1 := by subst hwa; simp [World.size_alloc]
  have HZA := hide hza
  clear hwa mkB c0 hza
  have hHd := hide (header_walk wa (HH.out.keep0 KA.out) hn hs HD.out)
  obtain ⟨x0, x1, x2, x3, x4, x5, x6, x7, x8, x9, x10, x11⟩ := hc12 (H1.out.keep KA.out id)
  go_wp2_with fail
  refine Calls.mono (show Calls _ _ #[.agg (hcells hd (.slice A1 hd.srcs.length c1) (.slice A2 hd.exts.length c2))] _ _ from hHd.out) ?_
  rintro e w1 ⟨k1, g, rfl, hr⟩
  obtain ⟨sv, xv, off, b, r1, r2⟩ := hr.open_
  obtain ⟨A3, c3, rfl⟩ := r1.shape
  obtain ⟨A4, c4, rfl⟩ := r2.shape
  have K1 := hide (KA.out.trans0 k1)
  have BB1 := hide (BB.out.keep k1 id)
  have hMt := hide (mto_walk (off := off) (g := w.heap.size) (L := L) w1 r1 r2 (fun k hk e => by have := HZA.out; omega) BB1.out HG.out hL (by omega) hn HD.out)
  clear x0 x1 x2 x3 x4 x5 x6 x7 x8 x9 x10 x11 hr r1 r2 k1
  obtain ⟨x0, x1, x2, x3, x4, x5, x6, x7, x8, x9, x10, x11, x12⟩ := rc13 b
  clear b
  go_wp2_with fail
  refine Calls.mono (show Calls _ _ #[.agg (rcells hd (.slice A3 hd.srcs.length c3) (.slice A4 hd.exts.length c4) off), _] _ _ from hMt.out) ?_
  rintro e w2 ⟨rfl, b2, k2⟩
  have B2 := hide b2
  have K2 := hide (K1.out.trans k2 (fun i hi e => by omega))
  have H3 := hide (H2.out.keep K2.out id)
  have f2 := H3.out.free 0
  have c2' := H3.out.cell 0 (v := .slice none 0 0) rfl
  have l2 := H3.out.lt
  have hLi : ((hsize hd : Nat) : Int) ≤ (L : Int) := by omega
  clear x0 x1 x2 x3 x4 x5 x6 x7 x8 x9 x10 x11 x12 b2 k2
  go_wp2_with fail
  go_ret
  have ho := B2.out.own (B := w.heap.size) (n := hsize hd) (cap := L) (Nat.le_refl _) (hsize_out HG.out) (by rw [Z8_len, ← hsize_out HG.out]; omega) (by simp only [maxLen]; omega)
  rw [← hsize_out HG.out]
  refine ⟨rfl, (K2.out.nul (· = g2)).setg (g := g2) 0 (fun _ => rfl) _, _, _, Nat.le_refl _, H3.out.set_ 0 _, ?_⟩
  exact ho.keep (Keep.set1 _ _ _ _) (fun i hi e => by simp [Value.ownBlock] at hi; omega)

/-- impl.FormatHeaderTo of a size that is too small. -/
theorem room_short {p : Nat → Prop} {v : Value} {hd : Hd} {L : Nat} (w : World) (hh : HV w p v hd) (hs : hd.srcs.length ≤ 2147483647) (hn : hd.exts.length ≤ 2147483647) (hdn : ∀ x ∈ hd.exts, x.data.length ≤ 2147483647) (hL : L < hsize hd) (hLm : L ≤ 4096) {te : TypeId} {ve : Value} (he : w.cell? ⟨4, 0, none⟩ = some (.iface te ve)) :
    Calls Tryd.prog 32 #[v, .int .i64 L] w fun e w' => e = .returned (.tuple #[.slice none 0 0, .bool false]) ∧ Keep w w' Nul := by
  have hh0 := hh
  obtain ⟨sv, xv, rfl, q1, q2⟩ := hh
  obtain ⟨A1, c1, rfl⟩ := q1.shape
  obtain ⟨A2, c2, rfl⟩ := q2.shape
  clear q1 q2
  have b1 := ((Blk.new w 35 (hcells hd (.slice A1 hd.srcs.length c1) (.slice A2 hd.exts.length c2))).alloc (.cells #[.int .i64 L] 3)).alloc (.cells #[.slice none 0 0] 29)
  have b0 := (Blk.new (w.alloc (.cells (hcells hd (.slice A1 hd.srcs.length c1) (.slice A2 hd.exts.length c2)) 35)) 3 #[.int .i64 L]).alloc (.cells #[.slice none 0 0] 29)
  have b2 := Blk.new ((w.alloc (.cells (hcells hd (.slice A1 hd.srcs.length c1) (.slice A2 hd.exts.length c2)) 35)).alloc (.cells #[.int .i64 L] 3)) 29 #[.slice none 0 0]
  simp only [World.size_alloc] at b0 b2
  have kW : Keep w (((w.alloc (.cells (hcells hd (.slice A1 hd.srcs.length c1) (.slice A2 hd.exts.length c2)) 35)).alloc (.cells #[.int .i64 L] 3)).alloc (.cells #[.slice none 0 0] 29)) Nul := (((Keep.refl w _).alloc _).alloc _).alloc _
  have hT := hide (try_out (k := 72) (g2 := w.heap.size + 1 + 1) (b := false) (R := fun w' => Blk w' (w.heap.size + 1 + 1) 29 #[.slice none 0 0]) (fun _ => by kernel_rfl) (by simp only [World.size_alloc]; omega)
    (fun w1 w2 hb k => by
      simp only [World.size_alloc] at k
      exact hb.keep k (by omega))
    ((room1_short _ (hh0.keep0 (kW.alloc (.cells #[.bool false] 4))) hs hn hdn hL hLm ((kW.alloc (.cells #[.bool false] 4)).cell id he) (b0.alloc (.cells #[.bool false] 4)) (b1.alloc (.cells #[.bool false] 4)) (b2.alloc (.cells #[.bool false] 4))).mono (by
      rintro e w' ⟨rfl, hk⟩
      exact ⟨rfl, hk.nul _, (b2.alloc (.cells #[.bool false] 4)).keep hk id⟩)))
  have KW := hide kW
  have hL1 : ¬ (L : Int) < 0 := by omega
  have hL2 : ¬ (4096 : Int) < (L : Int) := by omega
  have y1 := b0.cell 0 (v := .int .i64 L) rfl
  clear kW hh0 hdn b1 b2 b0 he
  unfold hcells at *
  go_enter Tryd.func32, Tryd.ntmps32
  go_wp2_with (refine (hT.out).mono ?_; rintro e w' ⟨rfl, hk, hb⟩; have c0 := hb.cell 0 (v := .slice none 0 0) rfl; have f0 := hb.free 0)
  have c1 := (hb.set_ 0 (.slice none 0 0)).cell 0 (v := .slice none 0 0) rfl
  refine bodyPost_ret (v := .tuple #[.slice none 0 0, .bool false]) (by simp [results, Tryd.results32, go_sem, c1]) rfl ⟨rfl, ?_⟩
  exact (KW.out.trans hk (fun i hi e => by omega)).setg _ (fun h => by omega) _

/-- impl.FormatHeaderTo of a size that is large enough. -/
theorem room_good {p : Nat → Prop} {v : Value} {hd : Hd} {L : Nat} (w : World) (hh : HV w p v hd) (hg : Good hd) (hn : hd.exts.length ≤ 2147483647) (hdn : ∀ x ∈ hd.exts, x.data.length ≤ 2147483647) (hL : hsize hd ≤ L) (hLm : L ≤ 4096) :
    Calls Tryd.prog 32 #[v, .int .i64 L] w fun e w' => ∃ A c, e = .returned (.tuple #[.slice A (outB hd).length c, .bool true]) ∧ Own w' w.heap.size 5 1 (.slice A (outB hd).length c) (outB hd).length (B8 (outB hd)) ∧ Keep w w' Nul := by
  have hh0 := hh
  obtain ⟨sv, xv, rfl, q1, q2⟩ := hh
  obtain ⟨A1, c1, rfl⟩ := q1.shape
  obtain ⟨A2, c2, rfl⟩ := q2.shape
  clear q1 q2
  have b1 := ((Blk.new w 35 (hcells hd (.slice A1 hd.srcs.length c1) (.slice A2 hd.exts.length c2))).alloc (.cells #[.int .i64 L] 3)).alloc (.cells #[.slice none 0 0] 29)
  have b0 := (Blk.new (w.alloc (.cells (hcells hd (.slice A1 hd.srcs.length c1) (.slice A2 hd.exts.length c2)) 35)) 3 #[.int .i64 L]).alloc (.cells #[.slice none 0 0] 29)
  have b2 := Blk.new ((w.alloc (.cells (hcells hd (.slice A1 hd.srcs.length c1) (.slice A2 hd.exts.length c2)) 35)).alloc (.cells #[.int .i64 L] 3)) 29 #[.slice none 0 0]
  simp only [World.size_alloc] at b0 b2
  have kW : Keep w (((w.alloc (.cells (hcells hd (.slice A1 hd.srcs.length c1) (.slice A2 hd.exts.length c2)) 35)).alloc (.cells #[.int .i64 L] 3)).alloc (.cells #[.slice none 0 0] 29)) Nul := (((Keep.refl w _).alloc _).alloc _).alloc _
  have hT := hide (try_out (k := 72) (g2 := w.heap.size + 1 + 1) (b := true) (R := fun w' => ∃ g c, w.heap.size + 4 ≤ g ∧ Blk w' (w.heap.size + 1 + 1) 29 #[.slice (some ⟨g, 0, none⟩) (outB hd).length c] ∧ Own w' (w.heap.size + 4) 5 1 (.slice (some ⟨g, 0, none⟩) (outB hd).length c) (outB hd).length (B8 (outB hd))) (fun _ => by kernel_rfl) (by simp only [World.size_alloc]; omega)
    (fun w1 w2 ⟨g, c, hgl, hb, ho⟩ k => by
      simp only [World.size_alloc] at k
      exact ⟨g, c, hgl, hb.keep k (by omega), ho.keep k (fun i hi e => by simp [Value.ownBlock] at hi; omega)⟩)
    ((room1_good _ (hh0.keep0 (kW.alloc (.cells #[.bool false] 4))) hg hn hdn hL hLm (b0.alloc (.cells #[.bool false] 4)) (b1.alloc (.cells #[.bool false] 4)) (b2.alloc (.cells #[.bool false] 4))).mono (by
      rintro e w' ⟨rfl, hk, g, c, hgl, hb, ho⟩
      simp only [World.size_alloc] at hgl ho
      exact ⟨rfl, hk, g, c, hgl, hb, ho⟩)))
  have KW := hide kW
  have hL1 : ¬ (L : Int) < 0 := by omega
  have hL2 : ¬ (4096 : Int) < (L : Int) := by omega
  have y1 := b0.cell 0 (v := .int .i64 L) rfl
  clear kW hh0 hg hdn b1 b2 b0
  unfold hcells at *
  go_enter Tryd.func32, Tryd.ntmps32
  go_wp2_with (refine (hT.out).mono ?_; rintro e w' ⟨rfl, hk, g, c, hgl, hb, ho⟩; have c0 := hb.cell 0 (v := .slice (some ⟨g, 0, none⟩) (outB hd).length c) rfl; have f0 := hb.free 0)
  have c1 := (hb.set_ 0 (.slice (some ⟨g, 0, none⟩) (outB hd).length c)).cell 0 (v := .slice (some ⟨g, 0, none⟩) (outB hd).length c) rfl
  refine bodyPost_ret (v := .tuple #[.slice (some ⟨g, 0, none⟩) (outB hd).length c, .bool true]) (by simp [results, Tryd.results32, go_sem, c1]) rfl ⟨_, _, rfl, ?_, ?_⟩
  · exact (ho.low (by omega)).keep (Keep.set1 _ _ _ _) (fun i hi e => by simp [Value.ownBlock] at hi; omega)
  · exact (KW.out.trans hk (fun i hi e => by omega)).setg _ (fun h => by omega) _
end Go.Proofs.YtdmnflngafbobaaDoor
