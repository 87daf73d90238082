/-
  The thin package's Get. Conditions: those that stand in each theorem.
-/
import Derived.Test.YtdmnflngafbobaaDoorGetx
namespace Go.Proofs.YtdmnflngafbobaaDoor
open Go.RowKit
set_option linter.unusedVariables false
set_option linter.unusedSimpArgs false
set_option maxRecDepth 100000

set_option maxHeartbeats 1600000 in
theorem get1_walk {p : Nat → Prop} {hd : Hd} {id : Int} {sv xv : Value} {g0 g1 g2 : Nat} (w : World) (hh : HV w p (.agg (hcells hd sv xv)) hd) (hs : hd.srcs.length ≤ 2147483647) (hn : hd.exts.length ≤ 2147483647) (hdn : ∀ x ∈ hd.exts, x.data.length ≤ 2147483647)
    (h1 : Blk w g1 35 (hcells hd sv xv)) (h0 : Blk w g0 5 #[.int .u8 id]) (h2 : Blk w g2 29 #[.slice none 0 0]) :
    Calls Tryd.prog 77 #[.pointer (some ⟨g1, 0, none⟩), .pointer (some ⟨g0, 0, none⟩), .pointer (some ⟨g2, 0, none⟩)] w fun e w' => ∃ A c, e = .returned (.bool A.isSome) ∧ Keep w w' (· = g2) ∧ Blk w' g2 29 #[.slice A (fdd hd id).length c] ∧
      Rd w' (w.heap.size ≤ ·) 1 (.slice A (fdd hd id).length c) (fdd hd id).length (B8 (fdd hd id)) ∧ (Fd hd id = none → A = none) := by
  have hlen := fdd_len id hdn
  have hh0 := hh
  obtain ⟨sv', xv', e', q1, q2⟩ := hh
  injection e' with e'
  have es : sv = sv' := by have := congrArg (fun a : Array Value => a[8]?) e'; simpa [hcells] using this
  have ex : xv = xv' := by have := congrArg (fun a : Array Value => a[10]?) e'; simpa [hcells] using this
  subst es ex
  obtain ⟨A1, c1, rfl⟩ := q1.shape
  obtain ⟨A2, c2, rfl⟩ := q2.shape
  clear q1 q2 e'
  have KD := hide ((Keep.refl w Nul).drew)
  have HH := hide (header_walk w.drew (hh0.keep0 KD.out) hn hs hdn)
  have x0' := hide (h0.drew)
  have x1' := hide (h1.drew)
  have x2' := hide (h2.drew)
  have lg2 := h2.lt
  clear hh0 h0 h1 h2 hdn
  go_enter Tryd.func77, Tryd.ntmps77
  go_upto_region 1 with fail
  have i0 := x0'.out.cell 0 (v := .int .u8 id) rfl
  have f2 := x2'.out.free 0
  have c2' := x2'.out.cell 0 (v := .slice none 0 0) rfl
  obtain ⟨x0, x1, x2, x3, x4, x5, x6, x7, x8, x9, x10, x11⟩ := hc12 x1'.out
  go_region_with (first
    | (go_at_call 54; refine Calls.mono (show Calls _ _ #[.agg (hcells hd (.slice A1 hd.srcs.length c1) (.slice A2 hd.exts.length c2))] _ _ from HH.out) ?_; rintro e w1 ⟨k1, g, rfl, hr⟩; obtain ⟨svg, xvg, offg, bg, r1, r2⟩ := hr.open_; have i0' := (x0'.out.keep k1 (fun h => h)).cell 0 (v := .int .u8 id) rfl; have BG := hide bg; have R2 := hide r2; have K1 := hide k1; clear hr bg r1 r2 k1)
    | (go_at_call 78; refine (getx_fd (id := id) _ BG.out R2.out hn).mono ?_; rintro e w2 ⟨A, c, rfl, k2, rd, hnn⟩; have RD := hide (rd.keep0 k2); have HNN := hide hnn; have K2 := hide k2; have H3 := hide ((x2'.out.keep K1.out (fun h => h)).keep k2 (fun h => h)); have f3 := H3.out.free 0; have c3' := H3.out.cell 0 (v := .slice none 0 0) rfl; clear rd hnn k2))
  all_goals
    have kn := fun w => run_neq_slice_nil_any (P := Tryd.prog) w 29 5 A (fdd hd id).length c 0 0 Tryd.underlying29
    have hz0 := KD.out.size
    have hz1 := K1.out.size
    have H4 := hide (H3.out.set_ 0 (.slice A (fdd hd id).length c))
    have c4 := H4.out.cell 0 (v := .slice A (fdd hd id).length c) rfl
    clear c3' f3 i0 i0' x0 x1 x2 x3 x4 x5 x6 x7 x8 x9 x10 x11
    go_wp2_with fail
    go_ret
    refine ⟨A, c, rfl, ?_, H4.out, ?_, HNN.out⟩
    · exact (((KD.out.trans0 K1.out).trans0 K2.out).nul (· = g2)).setg (g := g2) 0 (fun _ => rfl) _
    · exact ((RD.out.mono (q := (w.heap.size ≤ ·)) (fun k _ hk => Nat.le_trans hz0 hk)).keep (Keep.set1 _ _ _ _) (fun i _ hq e => by have : w.heap.size ≤ i := hq; omega))

/-- What the thin package's Get answers. -/
def GetR (w w' : World) (hd : Hd) (id : Int) (e : Ending) : Prop :=
  (fdd hd id = [] ∧ e = .returned (.tuple #[.slice none 0 0, .bool false])) ∨
  ((Fd hd id).isSome = true ∧ ∃ A c, e = .returned (.tuple #[.slice A (fdd hd id).length c, .bool true]) ∧ Rd w' (w.heap.size ≤ ·) 1 (.slice A (fdd hd id).length c) (fdd hd id).length (B8 (fdd hd id)))

set_option maxHeartbeats 1600000 in
theorem get_walk {p : Nat → Prop} {v : Value} {hd : Hd} {id : Int} (w : World) (hh : HV w p v hd) (hs : hd.srcs.length ≤ 2147483647) (hn : hd.exts.length ≤ 2147483647) (hdn : ∀ x ∈ hd.exts, x.data.length ≤ 2147483647) :
    Calls Tryd.prog 37 #[v, .int .u8 id] w fun e w' => GetR w w' hd id e ∧ Keep w w' Nul := by
  have hlen := fdd_len id hdn
  have hh0 := hh
  obtain ⟨sv, xv, rfl, q1, q2⟩ := hh
  obtain ⟨A1, c1, rfl⟩ := q1.shape
  obtain ⟨A2, c2, rfl⟩ := q2.shape
  clear q1 q2
  have b1 := ((Blk.new w 35 (hcells hd (.slice A1 hd.srcs.length c1) (.slice A2 hd.exts.length c2))).alloc (.cells #[.int .u8 id] 5)).alloc (.cells #[.slice none 0 0] 29)
  have b0 := (Blk.new (w.alloc (.cells (hcells hd (.slice A1 hd.srcs.length c1) (.slice A2 hd.exts.length c2)) 35)) 5 #[.int .u8 id]).alloc (.cells #[.slice none 0 0] 29)
  have b2 := Blk.new ((w.alloc (.cells (hcells hd (.slice A1 hd.srcs.length c1) (.slice A2 hd.exts.length c2)) 35)).alloc (.cells #[.int .u8 id] 5)) 29 #[.slice none 0 0]
  simp only [World.size_alloc] at b0 b2
  have kW : Keep w (((w.alloc (.cells (hcells hd (.slice A1 hd.srcs.length c1) (.slice A2 hd.exts.length c2)) 35)).alloc (.cells #[.int .u8 id] 5)).alloc (.cells #[.slice none 0 0] 29)) Nul := (((Keep.refl w _).alloc _).alloc _).alloc _
  have hT := hide (try_any 77 _ (fun b w' => ∃ A c, b = A.isSome ∧ Keep w w' Nul ∧ Blk w' (w.heap.size + 1 + 1) 29 #[.slice A (fdd hd id).length c] ∧ Rd w' (w.heap.size + 4 ≤ ·) 1 (.slice A (fdd hd id).length c) (fdd hd id).length (B8 (fdd hd id)) ∧ (Fd hd id = none → A = none)) _ (fun _ => by kernel_rfl)
    (fun b w1 w2 ⟨A, c, h1, h2, h3, h4, h5⟩ k => by
      simp only [World.size_alloc] at k
      exact ⟨A, c, h1, h2.trans k (fun i hi e => by omega), h3.keep k (by omega), h4.keep k (fun i _ hq e => by have : w.heap.size + 4 ≤ i := hq; omega), h5⟩)
    ((get1_walk _ (hh0.keep0 (kW.alloc (.cells #[.bool false] 4))) hs hn hdn (b1.alloc (.cells #[.bool false] 4)) (b0.alloc (.cells #[.bool false] 4)) (b2.alloc (.cells #[.bool false] 4))).mono (by
      rintro e w' ⟨A, c, rfl, hk, hb, hr, hnn⟩
      simp only [World.size_alloc] at hr
      exact ⟨_, rfl, (Blk.new _ _ _).keep hk (by simp only [World.size_alloc]; omega), A, c, rfl, (kW.alloc _).trans hk (fun i hi e => by omega), hb, hr, hnn⟩)))
  clear kW hh0 hdn b1 b2 b0
  unfold hcells at *
  go_enter Tryd.func37, Tryd.ntmps37
  go_wp2_with fail
  refine (hT.out).mono ?_
  rintro e w1 ⟨b, rfl, A, c, rfl, hk, hb, hr, hnn⟩
  have K1 := hide hk
  have B1 := hide hb
  have f0 := hb.free 0
  have c0 := hb.cell 0 (v := .slice A (fdd hd id).length c) rfl
  have HR := hide hr
  have HNN := hide hnn
  clear hk hb hr hnn
  cases A with
  | none =>
    have c1 := (B1.out.set_ 0 (.slice none 0 0)).cell 0 (v := .slice none 0 0) rfl
    simp only [Option.isSome_none]
    go_wp2_with fail
    refine bodyPost_ret (v := .tuple #[.slice none 0 0, .bool false]) (by simp [results, Tryd.results37, go_sem, c1]) rfl ⟨.inl ⟨?_, rfl⟩, ?_⟩
    · rcases Nat.eq_zero_or_pos (fdd hd id).length with h | h
      · exact List.eq_nil_of_length_eq_zero h
      · obtain ⟨_, _, _, e, _⟩ := HR.out.lit (by omega)
        injection e with e; cases e
    · exact K1.out.setg _ (fun h => by omega) _
  | some A =>
    have hC := hide (clone_b w1 HR.out (B8_one _) (by omega))
    simp only [Option.isSome_some]
    go_wp2_with fail
    refine (hC.out).mono ?_
    rintro e w2 ⟨v2, rfl, o2, k2, -⟩
    obtain ⟨A3, c3, rfl⟩ := o2.rd.shape
    have B2 := hide (B1.out.keep k2 (fun h => h))
    have f2 := B2.out.free 0
    have c2' := B2.out.cell 0 (v := .slice (some A) (fdd hd id).length c) rfl
    have O2 := hide o2
    have K2 := hide (K1.out.trans0 k2)
    have hz := K1.out.size
    have hlt := B1.out.lt
    have hat := hide o2.at_
    clear o2 k2
    have c4 := (B2.out.set_ 0 (.slice A3 (fdd hd id).length c3)).cell 0 (v := .slice A3 (fdd hd id).length c3) rfl
    go_wp2_with fail
    refine bodyPost_ret (v := .tuple #[.slice A3 (fdd hd id).length c3, .bool true]) (by simp [results, Tryd.results37, go_sem, c4]) rfl ⟨.inr ⟨?_, A3, c3, rfl, ?_⟩, ?_⟩
    · cases hF : Fd hd id with
      | none => cases HNN.out hF
      | some x => rfl
    · exact ((O2.out.rdB.mono (q := fun i => w1.heap.size ≤ i) (fun k _ hk => hk)).keep (Keep.set1 _ _ _ _) (fun i _ hq e => by have : w1.heap.size ≤ i := hq; omega)).mono (fun k _ hk => Nat.le_trans hz hk)
    · exact K2.out.setg _ (fun h => by omega) _
end Go.Proofs.YtdmnflngafbobaaDoor
