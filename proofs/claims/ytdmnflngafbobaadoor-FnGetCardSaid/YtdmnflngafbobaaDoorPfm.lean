/-
  (rtp.Packet).Marshal; the thin package's packet. Conditions: those that stand in each theorem.
-/
import Derived.Test.YtdmnflngafbobaaDoorPmar
namespace Go.Proofs.YtdmnflngafbobaaDoor
open Go.RowKit
set_option linter.unusedVariables false
set_option linter.unusedSimpArgs false
set_option maxRecDepth 100000

theorem psize_le {hd : Hd} (hg : Good hd) {n : Nat} (hn : n ≤ 2147483647) : psize hd n ≤ 2147746118 := by
  have := hsize_le hg
  have := hg.ok.padn
  unfold psize
  omega

set_option maxHeartbeats 1600000 in
theorem pmarshal_walk {p : Nat → Prop} {hd : Hd} {data : List Int} {sv xv raw : Value} {off : Int} {A : Option Addr} {c n : Nat} (w : World) (hS : Rd w p 1 sv hd.srcs.length (U32 hd.srcs)) (hX : XR w p xv hd.exts) (hR : Rd w p 1 (.slice A n c) n (B8 data))
    (hg : Good hd) (hp : hd.pad = decide (0 < hd.padn)) (hnp : n ≤ 2147483647) (hn : hd.exts.length ≤ 2147483647) (hdn : ∀ x ∈ hd.exts, x.data.length ≤ 2147483647) :
    Calls Tryd.prog 60 #[.agg (pcells hd sv xv off (.slice A n c) 0 raw)] w fun e w' => ∃ g c', e = .returned (.tuple #[.slice (some ⟨g, 0, none⟩) (outP hd data).length c', .nilIface]) ∧
      Own w' w.heap.size 5 1 (.slice (some ⟨g, 0, none⟩) (outP hd data).length c') (outP hd data).length (B8 (outP hd data)) ∧ Keep w w' Nul := by
  replace hS := hS.mono (q := (· < w.heap.size)) (fun k hk _ => hk)
  replace hX := hX.mono (q := (· < w.heap.size)) (fun k hk _ => hk)
  replace hR := hR.mono (q := (· < w.heap.size)) (fun k hk _ => hk)
  have hdl : data.length = n := by have := hR.len; rwa [B8_len] at this
  have hsz := psize_le hg hnp
  have hso : (outP hd data).length = psize hd n := by rw [outP_len hg hp, hdl]
  have hM0 := fun (wa : World) (k : Keep w wa Nul) => pmsize_walk (off := off) (raw := raw) (A := A) (n := n) (c := c) wa (hS.keep0 k) (hX.keep0 k) hg hnp hn hdn
  have hT0 := fun (wa : World) (g G : Nat) (k : Keep w wa Nul) (hB : Blk wa g 110 (pcells hd sv xv off (.slice A n c) 0 raw)) (hG : Buf wa G [] (Z8 (psize hd n))) (hgG : g ≠ G) (hgw : w.heap.size ≤ G) => pmto_walk (off := off) wa hB (hS.keep0 k) (hX.keep0 k) (hR.keep0 k) (fun k hk => by omega) hgG hG rfl hg hp hnp hn hdn
  have HM := hide hM0
  have HT := hide hT0
  have HSO := hide hso
  obtain ⟨A1, c1, rfl⟩ := hS.shape
  obtain ⟨A2, c2, rfl⟩ := hX.shape
  clear hS hX hM0 hT0 hso hdn hR hdl hp
  have mkB := run_mk etB (psize hd n) (by omega) (by omega)
  have MKB := hide mkB
  clear mkB
  have HPC : pcells hd (.slice A1 hd.srcs.length c1) (.slice A2 hd.exts.length c2) off (.slice A n c) 0 raw = #[.int .u8 hd.v, .bool hd.pad, .bool hd.ext, .bool hd.mark, .int .u8 hd.ty, .int .u16 hd.seq, .int .u32 hd.time, .int .u32 hd.ssrc, .slice A1 hd.srcs.length c1, .int .u16 hd.prof, .slice A2 hd.exts.length c2, .int .u8 hd.padn, .int .i64 off, .slice A n c, .int .u8 0, raw] := rfl
  rw [HPC]
  clear HPC
  go_enter Tryd.func60, Tryd.ntmps60
  go_upto_region 1 with fail
  generalize hwa : World.alloc w _ = wa
  have BX := hide (show Blk wa w.heap.size 110 (pcells hd (.slice A1 hd.srcs.length c1) (.slice A2 hd.exts.length c2) off (.slice A n c) 0 raw) by subst hwa; exact Blk.new w _ _)
  have KA := hide (show Keep w wa Nul by subst hwa; exact (Keep.refl w Nul).alloc _)
  generalize hv0 : Value.agg _ = v0
  clear hwa hv0
  have HM1 := hide (HM.out wa KA.out)
  obtain ⟨x0, x1, x2, x3, x4, x5, x6, x7, x8, x9, x10, x11, x12, x13, x14, x15⟩ := pc14 BX.out
  go_wp2_with fail
  refine Calls.mono (show Calls _ _ #[.agg (pcells hd (.slice A1 hd.srcs.length c1) (.slice A2 hd.exts.length c2) off (.slice A n c) 0 raw)] _ _ from HM1.out) ?_
  rintro e w1 ⟨rfl, k1⟩
  have BX1 := hide (BX.out.keep k1 id)
  have K1 := hide (KA.out.trans0 k1)
  clear x0 x1 x2 x3 x4 x5 x6 x7 x8 x9 x10 x11 x12 x13 x14 x15 k1
  have mkB := MKB.out
  simp only [Nat.mul_one] at mkB
  go_upto_region 2 with fail
  generalize hw2 : World.alloc w1 _ = w2
  have KZ := K1.out.size
  have BB := hide (show Buf w2 w1.heap.size [] (Z8 (psize hd n)) by subst hw2; exact Buf.mk' (Blk.new w1 _ _))
  have K2 := hide (show Keep w w2 Nul by subst hw2; exact K1.out.alloc _)
  have BX2 := hide (show Blk w2 w.heap.size 110 (pcells hd (.slice A1 hd.srcs.length c1) (.slice A2 hd.exts.length c2) off (.slice A n c) 0 raw) by subst hw2; exact BX1.out.alloc _)
  have hne : w.heap.size ≠ w1.heap.size := Nat.ne_of_lt BX1.out.lt
  clear hw2 mkB
  have HT1 := hide (HT.out w2 w.heap.size w1.heap.size K2.out BX2.out BB.out hne KZ)
  clear hne
  go_wp2_with fail
  refine (HT1.out).mono ?_
  rintro e w3 ⟨rfl, b3, k3⟩
  have B3 := hide b3
  have K3 := hide (K2.out.trans k3 fun i hi e => by omega)
  clear b3 k3
  go_wp2_with fail
  go_ret2
  have b3 := B3.out
  have ho := b3.own (B := w.heap.size) (n := psize hd n) (cap := psize hd n) KZ HSO.out.symm (by rw [HSO.out]; simp [Z8_len]) (by simp only [maxLen]; omega)
  rw [HSO.out]
  exact ⟨_, _, rfl, ho, K3.out⟩

/-- A packet of the thin package's or of the law's: its cells. -/
def kcells (h : Hd) (sv xv pv : Value) : Array Value :=
  #[.int .u8 h.v, .bool h.pad, .bool h.ext, .bool h.mark, .int .u8 h.ty, .int .u16 h.seq, .int .u32 h.time, .int .u32 h.ssrc, sv, .int .u16 h.prof, xv, .int .u8 h.padn, pv]
theorem kc13 {w : World} {g : Nat} {t : TypeId} {hd : Hd} {sv xv pv : Value} (h : Blk w g t (kcells hd sv xv pv)) :
    w.cell? ⟨g, 0, none⟩ = some (.int .u8 hd.v) ∧ w.cell? ⟨g, 1, none⟩ = some (.bool hd.pad) ∧ w.cell? ⟨g, 2, none⟩ = some (.bool hd.ext) ∧ w.cell? ⟨g, 3, none⟩ = some (.bool hd.mark) ∧ w.cell? ⟨g, 4, none⟩ = some (.int .u8 hd.ty) ∧ w.cell? ⟨g, 5, none⟩ = some (.int .u16 hd.seq) ∧ w.cell? ⟨g, 6, none⟩ = some (.int .u32 hd.time) ∧ w.cell? ⟨g, 7, none⟩ = some (.int .u32 hd.ssrc) ∧ w.cell? ⟨g, 8, none⟩ = some sv ∧ w.cell? ⟨g, 9, none⟩ = some (.int .u16 hd.prof) ∧ w.cell? ⟨g, 10, none⟩ = some xv ∧ w.cell? ⟨g, 11, none⟩ = some (.int .u8 hd.padn) ∧ w.cell? ⟨g, 12, none⟩ = some pv :=
  ⟨h.cell 0 rfl, h.cell 1 rfl, h.cell 2 rfl, h.cell 3 rfl, h.cell 4 rfl, h.cell 5 rfl, h.cell 6 rfl, h.cell 7 rfl, h.cell 8 rfl, h.cell 9 rfl, h.cell 10 rfl, h.cell 11 rfl, h.cell 12 rfl⟩
/-- A packet of the package at g, all that it holds made at B or above. -/
def KP (w : World) (B g : Nat) (hd : Hd) (data : List Int) : Prop :=
  ∃ sv xv A c off, B ≤ g ∧ Blk w g 110 (pcells hd sv xv off (.slice A data.length c) 0 (.slice none 0 0)) ∧ Rd w (B ≤ ·) 1 sv hd.srcs.length (U32 hd.srcs) ∧ XR w (B ≤ ·) xv hd.exts ∧ Rd w (B ≤ ·) 1 (.slice A data.length c) data.length (B8 data)

set_option maxHeartbeats 1600000 in
theorem packet_walk {p : Nat → Prop} {hd : Hd} {data : List Int} {sv xv : Value} {A : Option Addr} {c : Nat} (w : World) (hS : Rd w p 1 sv hd.srcs.length (U32 hd.srcs)) (hX : XR w p xv hd.exts) (hR : Rd w p 1 (.slice A data.length c) data.length (B8 data))
    (hs : hd.srcs.length ≤ 2147483647) (hnp : data.length ≤ 2147483647) (hn : hd.exts.length ≤ 2147483647) (hdn : ∀ x ∈ hd.exts, x.data.length ≤ 2147483647) :
    Calls Tryd.prog 59 #[.agg (kcells hd sv xv (.slice A data.length c))] w fun e w' => ∃ g, e = .returned (.pointer (some ⟨g, 0, none⟩)) ∧ Keep w w' Nul ∧ KP w' w.heap.size g hd data := by
  replace hS := hS.mono (q := (· < w.heap.size)) (fun k hk _ => hk)
  replace hX := hX.mono (q := (· < w.heap.size)) (fun k hk _ => hk)
  replace hR := hR.mono (q := (· < w.heap.size)) (fun k hk _ => hk)
  have hH0 := fun (wa : World) (k : Keep w wa Nul) => header_walk wa ⟨sv, xv, rfl, hS.keep0 k, hX.keep0 k⟩ hn hs hdn
  have HH := hide hH0
  have HR := hide hR
  obtain ⟨A1, c1, rfl⟩ := hS.shape
  obtain ⟨A2, c2, rfl⟩ := hX.shape
  clear hS hX hR hH0 hdn
  obtain ⟨n, hnd⟩ : ∃ n, n = data.length := ⟨_, rfl⟩
  have HND := hide hnd
  rw [← hnd] at HR hnp ⊢
  clear hnd
  unfold kcells
  go_enter Tryd.func59, Tryd.ntmps59
  go_upto_region 1 with fail
  generalize hwa : World.alloc w _ = wa
  have BX := hide (show Blk wa w.heap.size 42 (kcells hd (.slice A1 hd.srcs.length c1) (.slice A2 hd.exts.length c2) (.slice A n c)) by subst hwa; exact Blk.new w _ _)
  have KA := hide (show Keep w wa Nul by subst hwa; exact (Keep.refl w Nul).alloc _)
  generalize hv0 : Value.agg _ = v0
  clear hwa hv0
  have SO := hide (fun (w' : World) (h : Blk w' w.heap.size 42 (kcells hd (.slice A1 hd.srcs.length c1) (.slice A2 hd.exts.length c2) (.slice A n c))) => kc13 h)
  have bx0 := hide BX.out.drew
  have hHd := hide (HH.out wa.drew KA.out.drew)
  obtain ⟨x0, x1, x2, x3, x4, x5, x6, x7, x8, x9, x10, x11, x12⟩ := SO.out _ bx0.out
  have HRw := hide (fun (w1 : World) (k : Keep wa.drew w1 Nul) => clone_b w1 (HR.out.keep0 (KA.out.drew.trans0 k)) (B8_one _) (by omega))
  go_region_with (first
    | (go_at_call 54; refine Calls.mono (show Calls _ _ #[.agg (hcells hd (.slice A1 hd.srcs.length c1) (.slice A2 hd.exts.length c2))] _ _ from hHd.out) ?_; rintro e w1 ⟨k1, g, rfl, hr⟩; obtain ⟨svg, xvg, offg, bg, r1, r2⟩ := hr.open_; obtain ⟨A3, c3, rfl⟩ := r1.shape; obtain ⟨A4, c4, rfl⟩ := r2.shape; have hgw := hr.1; obtain ⟨y0, y1, y2, y3, y4, y5, y6, y7, y8, y9, y10, y11, y12⟩ := rc13 bg; obtain ⟨z0, z1, z2, z3, z4, z5, z6, z7, z8, z9, z10, z11, z12⟩ := SO.out w1 (bx0.out.keep k1 id); have BG := hide bg; have R1 := hide r1; have R2 := hide r2; have K1 := hide k1; clear hr bg r1 r2 k1)
    | (go_at_call 65; refine (HRw.out _ K1.out).mono ?_; rintro e w2 ⟨v1, rfl, o1, k2, -⟩; obtain ⟨Ac, cc, rfl⟩ := o1.rd.shape; obtain ⟨y0', y1', y2', y3', y4', y5', y6', y7', y8', y9', y10', y11', y12'⟩ := rc13 (BG.out.keep k2 id); have O1 := hide o1; have K2 := hide k2; clear o1 k2))
  all_goals
    have hz1 := K1.out.size
    have hz2 := K2.out.size
    have hz0 := KA.out.size
    have BN := hide (Blk.new w2 110 (pcells hd (.slice A3 hd.srcs.length c3) (.slice A4 hd.exts.length c4) offg (.slice Ac n cc) 0 (.slice none 0 0)))
    have KN := hide (((KA.out.drew.trans0 K1.out).trans0 K2.out).alloc (.cells (pcells hd (.slice A3 hd.srcs.length c3) (.slice A4 hd.exts.length c4) offg (.slice Ac n cc) 0 (.slice none 0 0)) 110))
    clear z0 z1 z2 z3 z4 z5 z6 z7 z8 z9 z10 z11 z12 y0 y1 y2 y3 y4 y5 y6 y7 y8 y9 y10 y11 y12 y0' y1' y2' y3' y4' y5' y6' y7' y8' y9' y10' y11' y12' x0 x1 x2 x3 x4 x5 x6 x7 x8 x9 x10 x11 x12
    go_wp2_with fail
    go_ret
    obtain rfl := HND.out
    have hzd : w.heap.size ≤ wa.drew.heap.size := hz0
    refine ⟨_, rfl, KN.out, _, _, Ac, cc, offg, by omega, BN.out, ?_, ?_, ?_⟩
    · exact ((R1.out.mono (fun k _ hk => Nat.le_trans hzd hk)).keep0 K2.out).alloc _
    · exact ((R2.out.mono (fun k _ hk => Nat.le_trans hzd hk)).keep0 K2.out).keep0 ((Keep.refl _ Nul).alloc _)
    · exact (O1.out.rdB.mono (fun k _ hk => Nat.le_trans hzd (Nat.le_trans hz1 hk))).alloc _
end Go.Proofs.YtdmnflngafbobaaDoor
