/-
  (*rtp.Packet).MarshalTo and (rtp.Packet).Marshal. Conditions: those that stand in each theorem.
-/
import Derived.Test.YtdmnflngafbobaaDoorPm
namespace Go.Proofs.YtdmnflngafbobaaDoor
open Go.RowKit
set_option linter.unusedVariables false
set_option linter.unusedSimpArgs false
set_option maxRecDepth 100000

theorem pc14 {w : World} {g : Nat} {t : TypeId} {hd : Hd} {sv xv pv raw : Value} {off ps : Int} (h : Blk w g t (pcells hd sv xv off pv ps raw)) :
    w.cell? ⟨g, 0, none⟩ = some (.int .u8 hd.v) ∧ w.cell? ⟨g, 1, none⟩ = some (.bool hd.pad) ∧ w.cell? ⟨g, 2, none⟩ = some (.bool hd.ext) ∧ w.cell? ⟨g, 3, none⟩ = some (.bool hd.mark) ∧ w.cell? ⟨g, 4, none⟩ = some (.int .u8 hd.ty) ∧ w.cell? ⟨g, 5, none⟩ = some (.int .u16 hd.seq) ∧ w.cell? ⟨g, 6, none⟩ = some (.int .u32 hd.time) ∧ w.cell? ⟨g, 7, none⟩ = some (.int .u32 hd.ssrc) ∧ w.cell? ⟨g, 8, none⟩ = some sv ∧ w.cell? ⟨g, 9, none⟩ = some (.int .u16 hd.prof) ∧ w.cell? ⟨g, 10, none⟩ = some xv ∧ w.cell? ⟨g, 11, none⟩ = some (.int .u8 hd.padn) ∧ w.cell? ⟨g, 12, none⟩ = some (.int .i64 off) ∧ w.cell? ⟨g, 13, none⟩ = some pv ∧ w.cell? ⟨g, 14, none⟩ = some (.int .u8 ps) ∧ w.cell? ⟨g, 15, none⟩ = some raw :=
  ⟨h.cell 0 rfl, h.cell 1 rfl, h.cell 2 rfl, h.cell 3 rfl, h.cell 4 rfl, h.cell 5 rfl, h.cell 6 rfl, h.cell 7 rfl, h.cell 8 rfl, h.cell 9 rfl, h.cell 10 rfl, h.cell 11 rfl, h.cell 12 rfl, h.cell 13 rfl, h.cell 14 rfl, h.cell 15 rfl⟩

/-- The bytes of a packet. -/
def outP (h : Hd) (data : List Int) : List Int := outB h ++ data ++ padB h
theorem padB_len {h : Hd} (hp : h.pad = decide (0 < h.padn)) (h0 : 0 ≤ h.padn ∧ h.padn < 256) : (padB h).length = h.padn.toNat := by
  unfold padB
  cases hq : h.pad
  · have : ¬ 0 < h.padn := by rw [hq] at hp; simpa using hp.symm
    simp; omega
  · have : 0 < h.padn := by rw [hq] at hp; simpa using hp.symm
    simp; omega
theorem outP_len {h : Hd} (hg : Good h) (hp : h.pad = decide (0 < h.padn)) (data : List Int) : (outP h data).length = psize h data.length := by
  unfold outP psize
  rw [List.length_append, List.length_append, padB_len hp hg.ok.padn, hsize_out hg]

set_option maxHeartbeats 1600000 in
theorem pmto_walk {p : Nat → Prop} {hd : Hd} {data : List Int} {sv xv raw : Value} {off : Int} {A : Option Addr} {c g G n L : Nat} (w : World) (hB : Blk w g 110 (pcells hd sv xv off (.slice A n c) 0 raw)) (hS : Rd w p 1 sv hd.srcs.length (U32 hd.srcs)) (hX : XR w p xv hd.exts) (hR : Rd w p 1 (.slice A n c) n (B8 data)) (hpG : ∀ k, p k → k ≠ G) (hgG : g ≠ G)
    (hG : Buf w G [] (Z8 L)) (hL : L = psize hd n) (hg : Good hd) (hp : hd.pad = decide (0 < hd.padn)) (hnp : n ≤ 2147483647) (hn : hd.exts.length ≤ 2147483647) (hdn : ∀ x ∈ hd.exts, x.data.length ≤ 2147483647) :
    Calls Tryd.prog 98 #[.pointer (some ⟨g, 0, none⟩), .slice (some ⟨G, 0, none⟩) L L] w fun e w' => e = .returned (.tuple #[.int .i64 (L : Int), Value.nilIface]) ∧ Buf w' G (outP hd data) (Z8 0) ∧ Keep w w' (· = G) := by
  have hsz := hsize_le hg
  have hso := hsize_out hg
  have hpn := hg.ok.padn
  have hdl : data.length = n := by have := hR.len; rwa [B8_len] at this
  have hLs : hsize hd ≤ L := by rw [hL]; unfold psize; omega
  have hLm : L ≤ 1099511627776 := by rw [hL]; unfold psize; omega
  have hMT := hide (mto_walk (off := off) (L := L) w hS hX hpG hG hg hLs hLm hn hdn)
  have HB := hide hB
  have HR := hide hR
  have HP := hide hpG
  have HPD := hide hp
  have HPN := hide hpn
  have HSO := hide hso
  have HL := hide hL
  have HDL := hide hdl
  obtain ⟨A1, c1, rfl⟩ := hS.shape
  obtain ⟨A2, c2, rfl⟩ := hX.shape
  obtain ⟨x0, x1, x2, x3, x4, x5, x6, x7, x8, x9, x10, x11, x12, x13, x14, x15⟩ := pc14 hB
  clear hS hX hR hpG hG hL hg hp hdn hso hpn hdl hB
  have hq : (hd.pad = true ∧ (hd.padn == 0) = false) ∨ hd.pad = false := by
    cases h : hd.pad
    · exact .inr rfl
    · have := HPD.out
      rw [h] at this
      have : 0 < hd.padn := by simpa using this.symm
      exact .inl ⟨rfl, by simp; omega⟩
  have hKd : ∀ w' : World, Keep w w' (· = G) → w'.drew.cell? ⟨g, 13, none⟩ = some (.slice A n c) := fun w' k => (HB.out.keep k hgG).cell 13 rfl
  have HKd := hide hKd
  clear hKd
  rcases hq with ⟨hq1, hq2⟩ | hq1
  all_goals
    rw [hq1] at x1
    go_enter Tryd.func98, Tryd.ntmps98
    go_upto_region 3 with (refine (pads_walk _ HB.out HPN.out).mono ?_; rintro e w' ⟨rfl, rfl⟩)
    rw [← hq1] at x1
    have HQ1 := hide hq1
    clear hq1
    go_wp2_with fail
    refine Calls.mono (show Calls _ _ #[.agg (rcells hd (.slice A1 hd.srcs.length c1) (.slice A2 hd.exts.length c2) off), _] _ _ from hMT.out) ?_
    rintro e w1 ⟨rfl, b1, k1⟩
    have B1 := hide b1.drew
    have K1 := hide k1
    have HB1 := hide (HB.out.keep k1 hgG).drew
    have HR1 := hide ((HR.out.keep k1 (fun i hi hp => HP.out i hp)).drew)
    have y13 := HKd.out w1 k1
    have l1 := HB1.out.lt
    clear x0 x1 x2 x3 x4 x5 x6 x7 x8 x9 x10 x11 x12 x13 x14 x15 k1 b1 hMT
    go_upto_region 6 with fail
    go_region_held3 (fun w' => w'.cell? ⟨g, 13, none⟩ = some (.slice A n c))
      (first | exact y13 | exact y14)
      (first
        | (go_at_call 99; refine (pads_walk _ HB1.out HPN.out).mono ?_; rintro e w2 ⟨rfl, rfl⟩)
        | (go_at_call 114; refine Calls.mono (show Calls _ _ #[_, _, _, .slice A n c, _] _ _ from HDL.out ▸ mpp_walk (data := data) (hd := hd) (p := p) (G := G) (L := L) (N := hsize hd) (g := g) (c := c) (A := A) _ (by rw [HDL.out]; exact HR1.out) HP.out B1.out HSO.out ((HB1.out).cell 1 rfl) hgG HPD.out HPN.out (by rw [HDL.out]; exact HL.out.symm) hLm) ?_; rintro e w3 ⟨rfl, b3, k3⟩; have B3 := hide b3; have K3 := hide k3; have y14 := k3.cell hgG y13; clear b3 k3))
    clear y13 y14
    go_wp2_with fail
    go_ret2
    exact ⟨rfl, B3.out, (K1.out.drew).trans K3.out fun _ _ e => e⟩
end Go.Proofs.YtdmnflngafbobaaDoor
