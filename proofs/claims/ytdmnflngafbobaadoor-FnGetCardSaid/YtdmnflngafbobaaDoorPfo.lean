/-
  The thin package's Format and Size. Conditions: those that stand in each theorem.
-/
import Derived.Test.YtdmnflngafbobaaDoorPfm
import Derived.Deep.WholeRow
namespace Go.Proofs.YtdmnflngafbobaaDoor
open Go.RowKit
set_option linter.unusedVariables false
set_option linter.unusedSimpArgs false
set_option maxRecDepth 100000

/-- A whole value into the block that was made last. -/
theorem wpList_stA {P : Program} {ops : Array Oper} {rest : List Oper} {o : Oper} {a : Act} {Q : Exit → Act → World → Prop} {t : TypeId} {c c' : Array Value} {w0 : World} (hgd : o.guard = none) (p x : Operand) (ho : o.op = .store t p x) (hp : a.eval p = .pointer (some ⟨w0.heap.size, 0, none⟩)) (hx : a.eval x = .agg c')
    (hi : (P.info? t).map (·.size) = some c'.size) (hs : c.size = c'.size) (h1 : c'.all (·.oneCell') = true) (h : wpList P ops Q rest (a.put o.dst undef) (w0.alloc (.cells c' t))) : wpList P ops Q (o :: rest) a (w0.alloc (.cells c t)) := by
  refine wpList_plain hgd fun K hK => ?_
  have hr : (execOp a.eval o).run P (w0.alloc (.cells c t)) = .ok .skip (w0.alloc (.cells c' t)) := by
    unfold execOp
    simp only [ho, hp, hx, Sem.run_bind, Sem.run_pure, run_storeAt_new (P := P) w0 t c c' hi hs h1, Result.andThen_ok]
  unfold Oper.wp
  rw [hr]
  exact hK _ _ h
/-- A packet of the law's or of the thin package's. -/
def PV (w : World) (p : Nat → Prop) (v : Value) (hd : Hd) (data : List Int) : Prop :=
  ∃ sv xv A c, v = .agg (kcells hd sv xv (.slice A data.length c)) ∧ Rd w p 1 sv hd.srcs.length (U32 hd.srcs) ∧ XR w p xv hd.exts ∧ Rd w p 1 (.slice A data.length c) data.length (B8 data)
theorem PV.keep0 {w w' : World} {p : Nat → Prop} {v : Value} {hd : Hd} {data : List Int} (h : PV w p v hd data) (k : Keep w w' Nul) : PV w' p v hd data := by
  obtain ⟨sv, xv, A, c, e, h1, h2, h3⟩ := h
  exact ⟨sv, xv, A, c, e, h1.keep0 k, h2.keep0 k, h3.keep0 k⟩
theorem HV.parts {w : World} {p : Nat → Prop} {hd : Hd} {sv xv : Value} (h : HV w p (.agg (hcells hd sv xv)) hd) : Rd w p 1 sv hd.srcs.length (U32 hd.srcs) ∧ XR w p xv hd.exts := by
  obtain ⟨sv', xv', e', q1, q2⟩ := h
  injection e' with e'
  have es : sv = sv' := by have := congrArg (fun a : Array Value => a[8]?) e'; simpa [hcells] using this
  have ex : xv = xv' := by have := congrArg (fun a : Array Value => a[10]?) e'; simpa [hcells] using this
  subst es ex
  exact ⟨q1, q2⟩
theorem PV.of_hv {w : World} {p : Nat → Prop} {hd : Hd} {data : List Int} {sv xv : Value} {A : Option Addr} {c : Nat} (h : HV w p (.agg (hcells hd sv xv)) hd) (hr : Rd w p 1 (.slice A data.length c) data.length (B8 data)) : PV w p (.agg (kcells hd sv xv (.slice A data.length c))) hd data :=
  ⟨sv, xv, A, c, rfl, h.parts.1, h.parts.2, hr⟩
/-- What the sizes of a packet are. -/
structure Sz (hd : Hd) (data : List Int) : Prop where
  s : hd.srcs.length ≤ 2147483647
  d : data.length ≤ 2147483647
  x : hd.exts.length ≤ 2147483647
  b : ∀ x ∈ hd.exts, x.data.length ≤ 2147483647

set_option maxHeartbeats 1600000 in
theorem fmt1 {p : Nat → Prop} {hd : Hd} {data : List Int} {v : Value} {g1 g2 : Nat} (w : World) (hh : PV w p v hd data) (hg : Good hd) (hp : hd.pad = decide (0 < hd.padn)) (hz : Sz hd data)
    (h1 : Blk w g1 42 v.cells) (h2 : Blk w g2 29 #[.slice none 0 0]) :
    Calls Tryd.prog 58 #[.pointer (some ⟨g1, 0, none⟩), .pointer (some ⟨g2, 0, none⟩)] w fun e w' => e = .returned (.bool true) ∧ Keep w w' (· = g2) ∧
      ∃ g c, w.heap.size ≤ g ∧ Blk w' g2 29 #[.slice (some ⟨g, 0, none⟩) (outP hd data).length c] ∧ Own w' w.heap.size 5 1 (.slice (some ⟨g, 0, none⟩) (outP hd data).length c) (outP hd data).length (B8 (outP hd data)) := by
  obtain ⟨sv, xv, A, c, rfl, q1, q2, q3⟩ := hh
  have HH := hide (packet_walk w q1 q2 q3 hz.s hz.d hz.x hz.b)
  have HZ := hide hz
  have HG := hide hg
  have HP := hide hp
  obtain ⟨A1, c1, rfl⟩ := q1.shape
  obtain ⟨A2, c2, rfl⟩ := q2.shape
  obtain ⟨x0, x1, x2, x3, x4, x5, x6, x7, x8, x9, x10, x11, x12⟩ := kc13 h1
  have hg2 := h2.lt
  have H2 := hide h2
  have hg1 := h1.lt
  clear q1 q2 q3 h1 h2 hg hz hp
  go_enter Tryd.func58, Tryd.ntmps58
  go_wp2_with fail
  refine Calls.mono (show Calls _ _ #[.agg (kcells hd (.slice A1 hd.srcs.length c1) (.slice A2 hd.exts.length c2) (.slice A data.length c))] _ _ from HH.out) ?_
  rintro e w1 ⟨g, rfl, k1, sv, xv, A', c', off, hgw, b, r1, r2, r3⟩
  obtain ⟨A3, c3, rfl⟩ := r1.shape
  obtain ⟨A4, c4, rfl⟩ := r2.shape
  have HM := hide (pmarshal_walk (off := off) (raw := .slice none 0 0) w1 r1 r2 r3 HG.out HP.out HZ.out.d HZ.out.x HZ.out.b)
  have K1 := hide k1
  have hz1 := k1.size
  clear x0 x1 x2 x3 x4 x5 x6 x7 x8 x9 x10 x11 x12 r1 r2 r3 k1
  obtain ⟨x0, x1, x2, x3, x4, x5, x6, x7, x8, x9, x10, x11, x12, x13, x14, x15⟩ := pc14 b
  clear b
  go_wp2_with fail
  refine Calls.mono (show Calls _ _ #[.agg (pcells hd (.slice A3 hd.srcs.length c3) (.slice A4 hd.exts.length c4) off (.slice A' data.length c') 0 (.slice none 0 0))] _ _ from HM.out) ?_
  rintro e w2 ⟨gm, cm, rfl, ho, k2⟩
  have hgm : w1.heap.size ≤ gm := (ho.at_ gm rfl).1
  have HO := hide ho
  have K2 := hide (K1.out.trans0 k2)
  have H3 := hide (H2.out.keep K2.out id)
  have f2 := H3.out.free 0
  have c2' := H3.out.cell 0 (v := .slice none 0 0) rfl
  have l2 := H3.out.lt
  clear x0 x1 x2 x3 x4 x5 x6 x7 x8 x9 x10 x11 x12 x13 x14 x15 ho k2
  go_wp2_with fail
  go_ret
  refine ⟨rfl, (K2.out.nul (· = g2)).setg (g := g2) 0 (fun _ => rfl) _, gm, cm, by omega, H3.out.set_ 0 _, ?_⟩
  exact (HO.out.low hz1).keep (Keep.set1 _ _ _ _) (fun i hi e => by simp [Value.ownBlock] at hi; omega)

/-- impl.Format of a packet that is written. -/
theorem fmtp_walk {p : Nat → Prop} {v : Value} {hd : Hd} {data : List Int} (w : World) (hh : PV w p v hd data) (hg : Good hd) (hp : hd.pad = decide (0 < hd.padn)) (hz : Sz hd data) :
    Calls Tryd.prog 23 #[v] w fun e w' => ∃ g c, e = .returned (.tuple #[.slice (some ⟨g, 0, none⟩) (outP hd data).length c, .bool true]) ∧ Own w' w.heap.size 5 1 (.slice (some ⟨g, 0, none⟩) (outP hd data).length c) (outP hd data).length (B8 (outP hd data)) ∧ Keep w w' Nul := by
  have hh0 := hh
  obtain ⟨sv, xv, A, c, rfl, q1, q2, q3⟩ := hh
  obtain ⟨A1, c1, rfl⟩ := q1.shape
  obtain ⟨A2, c2, rfl⟩ := q2.shape
  clear q1 q2 q3
  have b1 := (Blk.new w 42 (kcells hd (.slice A1 hd.srcs.length c1) (.slice A2 hd.exts.length c2) (.slice A data.length c))).alloc (.cells #[.slice none 0 0] 29)
  have b2 := Blk.new (w.alloc (.cells (kcells hd (.slice A1 hd.srcs.length c1) (.slice A2 hd.exts.length c2) (.slice A data.length c)) 42)) 29 #[.slice none 0 0]
  simp only [World.size_alloc] at b2
  have kW : Keep w ((w.alloc (.cells (kcells hd (.slice A1 hd.srcs.length c1) (.slice A2 hd.exts.length c2) (.slice A data.length c)) 42)).alloc (.cells #[.slice none 0 0] 29)) Nul := ((Keep.refl w _).alloc _).alloc _
  have hT := hide (try_out (k := 58) (g2 := w.heap.size + 1) (b := true) (R := fun w' => ∃ g c, w.heap.size + 3 ≤ g ∧ Blk w' (w.heap.size + 1) 29 #[.slice (some ⟨g, 0, none⟩) (outP hd data).length c] ∧ Own w' (w.heap.size + 3) 5 1 (.slice (some ⟨g, 0, none⟩) (outP hd data).length c) (outP hd data).length (B8 (outP hd data))) (fun _ => by kernel_rfl) (by simp only [World.size_alloc]; omega)
    (fun w1 w2 ⟨g, c, hgl, hb, ho⟩ k => by
      simp only [World.size_alloc] at k
      exact ⟨g, c, hgl, hb.keep k (by omega), ho.keep k (fun i hi e => by simp [Value.ownBlock] at hi; omega)⟩)
    ((fmt1 _ (hh0.keep0 (kW.alloc (.cells #[.bool false] 4))) hg hp hz (b1.alloc (.cells #[.bool false] 4)) (b2.alloc (.cells #[.bool false] 4))).mono (by
      rintro e w' ⟨rfl, hk, g, c, hgl, hb, ho⟩
      simp only [World.size_alloc] at hgl ho
      exact ⟨rfl, hk, g, c, hgl, hb, ho⟩)))
  have KW := hide kW
  clear kW hh0 hg hp hz b1 b2
  unfold kcells at *
  go_enter Tryd.func23, Tryd.ntmps23
  go_wp2_with (refine (hT.out).mono ?_; rintro e w' ⟨rfl, hk, g, c, hgl, hb, ho⟩; have c0 := hb.cell 0 (v := .slice (some ⟨g, 0, none⟩) (outP hd data).length c) rfl; have f0 := hb.free 0)
  have c1 := (hb.set_ 0 (.slice (some ⟨g, 0, none⟩) (outP hd data).length c)).cell 0 (v := .slice (some ⟨g, 0, none⟩) (outP hd data).length c) rfl
  refine bodyPost_ret (v := .tuple #[.slice (some ⟨g, 0, none⟩) (outP hd data).length c, .bool true]) (by simp [results, Tryd.results23, go_sem, c1]) rfl ⟨_, _, rfl, ?_, ?_⟩
  · exact (ho.low (by omega)).keep (Keep.set1 _ _ _ _) (fun i hi e => by simp [Value.ownBlock] at hi; omega)
  · exact (KW.out.trans hk (fun i hi e => by omega)).setg _ (fun h => by omega) _

set_option maxHeartbeats 1600000 in
theorem psz1 {p : Nat → Prop} {hd : Hd} {data : List Int} {v : Value} {g1 g2 : Nat} (w : World) (hh : PV w p v hd data) (hg : Good hd) (hz : Sz hd data)
    (h1 : Blk w g1 42 v.cells) (h2 : Blk w g2 3 #[.int .i64 0]) :
    Calls Tryd.prog 61 #[.pointer (some ⟨g1, 0, none⟩), .pointer (some ⟨g2, 0, none⟩)] w fun e w' => e = .returned (.bool true) ∧ Keep w w' (· = g2) ∧ Blk w' g2 3 #[.int .i64 (psize hd data.length)] := by
  obtain ⟨sv, xv, A, c, rfl, q1, q2, q3⟩ := hh
  have HH := hide (packet_walk w q1 q2 q3 hz.s hz.d hz.x hz.b)
  have HZ := hide hz
  have HG := hide hg
  obtain ⟨A1, c1, rfl⟩ := q1.shape
  obtain ⟨A2, c2, rfl⟩ := q2.shape
  obtain ⟨x0, x1, x2, x3, x4, x5, x6, x7, x8, x9, x10, x11, x12⟩ := kc13 h1
  have hg2 := h2.lt
  have H2 := hide h2
  have hg1 := h1.lt
  clear q1 q2 q3 h1 h2 hg hz
  go_enter Tryd.func61, Tryd.ntmps61
  go_wp2_with fail
  refine Calls.mono (show Calls _ _ #[.agg (kcells hd (.slice A1 hd.srcs.length c1) (.slice A2 hd.exts.length c2) (.slice A data.length c))] _ _ from HH.out) ?_
  rintro e w1 ⟨g, rfl, k1, sv, xv, A', c', off, hgw, b, r1, r2, r3⟩
  obtain ⟨A3, c3, rfl⟩ := r1.shape
  obtain ⟨A4, c4, rfl⟩ := r2.shape
  have HM := hide (pmsize_walk (off := off) (raw := .slice none 0 0) (A := A') (n := data.length) (c := c') w1 r1 r2 HG.out HZ.out.d HZ.out.x HZ.out.b)
  have K1 := hide k1
  clear x0 x1 x2 x3 x4 x5 x6 x7 x8 x9 x10 x11 x12 r1 r2 r3 k1
  obtain ⟨x0, x1, x2, x3, x4, x5, x6, x7, x8, x9, x10, x11, x12, x13, x14, x15⟩ := pc14 b
  clear b
  go_wp2_with fail
  refine Calls.mono (show Calls _ _ #[.agg (pcells hd (.slice A3 hd.srcs.length c3) (.slice A4 hd.exts.length c4) off (.slice A' data.length c') 0 (.slice none 0 0))] _ _ from HM.out) ?_
  rintro e w2 ⟨rfl, k2⟩
  have K2 := hide (K1.out.trans0 k2)
  have H3 := hide (H2.out.keep K2.out id)
  have f2 := H3.out.free 0
  have c2' := H3.out.cell 0 (v := .int .i64 0) rfl
  have l2 := H3.out.lt
  clear x0 x1 x2 x3 x4 x5 x6 x7 x8 x9 x10 x11 x12 x13 x14 x15 k2
  go_wp2_with fail
  go_ret
  exact ⟨rfl, (K2.out.nul (· = g2)).setg (g := g2) 0 (fun _ => rfl) _, H3.out.set_ 0 _⟩

/-- impl.Size. -/
theorem psz_walk {p : Nat → Prop} {v : Value} {hd : Hd} {data : List Int} (w : World) (hh : PV w p v hd data) (hg : Good hd) (hz : Sz hd data) :
    Calls Tryd.prog 24 #[v] w fun e w' => e = .returned (.int .i64 (psize hd data.length)) ∧ Keep w w' Nul := by
  have hh0 := hh
  obtain ⟨sv, xv, A, c, rfl, q1, q2, q3⟩ := hh
  obtain ⟨A1, c1, rfl⟩ := q1.shape
  obtain ⟨A2, c2, rfl⟩ := q2.shape
  clear q1 q2 q3
  have b1 := (Blk.new w 42 (kcells hd (.slice A1 hd.srcs.length c1) (.slice A2 hd.exts.length c2) (.slice A data.length c))).alloc (.cells #[.int .i64 0] 3)
  have b2 := Blk.new (w.alloc (.cells (kcells hd (.slice A1 hd.srcs.length c1) (.slice A2 hd.exts.length c2) (.slice A data.length c)) 42)) 3 #[.int .i64 0]
  simp only [World.size_alloc] at b2
  have kW : Keep w ((w.alloc (.cells (kcells hd (.slice A1 hd.srcs.length c1) (.slice A2 hd.exts.length c2) (.slice A data.length c)) 42)).alloc (.cells #[.int .i64 0] 3)) Nul := ((Keep.refl w _).alloc _).alloc _
  have hT := hide (try_out (k := 61) (g2 := w.heap.size + 1) (b := true) (R := fun w' => Blk w' (w.heap.size + 1) 3 #[.int .i64 (psize hd data.length)]) (fun _ => by kernel_rfl) (by simp only [World.size_alloc]; omega)
    (fun w1 w2 hb k => by
      simp only [World.size_alloc] at k
      exact hb.keep k (by omega))
    (psz1 _ (hh0.keep0 (kW.alloc (.cells #[.bool false] 4))) hg hz (b1.alloc (.cells #[.bool false] 4)) (b2.alloc (.cells #[.bool false] 4))))
  have KW := hide kW
  clear kW hh0 hg hz b1 b2
  unfold kcells at *
  go_enter Tryd.func24, Tryd.ntmps24
  go_wp2_with (refine (hT.out).mono ?_; rintro e w' ⟨rfl, hk, hb⟩; have c0 := hb.cell 0 (v := .int .i64 (psize hd data.length)) rfl; have f0 := hb.free 0)
  have c1 := (hb.set_ 0 (.int .i64 (psize hd data.length))).cell 0 (v := .int .i64 (psize hd data.length)) rfl
  refine bodyPost_ret (v := .int .i64 (psize hd data.length)) (by simp [results, Tryd.results24, go_sem, c1]) rfl ⟨rfl, ?_⟩
  exact (KW.out.trans hk (fun i hi e => by omega)).setg _ (fun h => by omega) _
end Go.Proofs.YtdmnflngafbobaaDoor
