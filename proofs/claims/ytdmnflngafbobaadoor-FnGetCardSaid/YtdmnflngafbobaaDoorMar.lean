/-
  (rtp.Header).Marshal and the thin package's FormatHeader, HeaderSize. Conditions: those that stand in each theorem.
-/
import Derived.Test.YtdmnflngafbobaaDoorMto
import Derived.Test.YtdmnflngafbobaaDoorTry
namespace Go.Proofs.YtdmnflngafbobaaDoor
open Go.RowKit
set_option linter.unusedVariables false
set_option linter.unusedSimpArgs false
set_option maxRecDepth 100000

theorem hsize_out {hd : Hd} (hg : Good hd) : hsize hd = (outB hd).length := by
  have hl := headB_len hd
  cases he : hd.ext
  · simp [hsize, outB, he, hl]; omega
  · obtain ⟨e, hx, hel⟩ := hg.ext he
    have h4 := extsB_len hx
    have hb : ∀ x, (by16 x).length = 2 := fun _ => rfl
    have e1 : (e.length : Nat) = (xsize hd + 3) / 4 * 4 := by
      unfold extsB at hx
      split at hx
      · cases hx
      · split at hx
        · rename_i h1
          unfold own1 at hx
          split at hx
          · rename_i x' hxx
            split at hx
            · rename_i h
              injection hx with hx
              have : xsize hd = x'.data.length := by simp [xsize, h1.1, h1.2, hxx]
              rw [this, ← hx]
              have := h.2
              omega
            · cases hx
          · cases hx
        · rename_i h1
          split at hx
          · injection hx with hx
            have e2 : xsize hd = (xsb hd.prof hd.exts).length := by
              by_cases q : hd.prof = 48862
              · rw [q, xsum_one]; simp [xsize, q]
              · have q2 : hd.prof = 4096 := by
                  by_cases q2 : hd.prof = 4096
                  · exact q2
                  · exact absurd ⟨q, q2⟩ h1
                rw [q2, xsum_two]; simp [xsize, q2]
            rw [e2, ← hx]
            simp [pad4]
            omega
          · cases hx
    rw [out_ext he hx]
    unfold hsize
    simp only [he, if_true, List.length_append, hl, hb, e1]
    omega
theorem hsize_le {hd : Hd} (hg : Good hd) : hsize hd ≤ 262216 := by
  rw [hsize_out hg]
  have hl := headB_len hd
  have hs := hg.srcs
  have hb : ∀ x, (by16 x).length = 2 := fun _ => rfl
  cases he : hd.ext
  · simp [outB, he, hl]; omega
  · obtain ⟨e, hx, hel⟩ := hg.ext he
    rw [out_ext he hx]
    simp only [List.length_append, hl, hb]
    omega

/-- impl.try of a function that writes into one block that was there. -/
theorem try_out {k : FuncId} {cap : Array Value} {b : Bool} {g2 : Nat} {w : World} {R : World → Prop} (hk : ∀ w, (callFunc k cap).run Tryd.prog w = .ok (.enter k cap) w) (hg2 : g2 < w.heap.size)
    (hR : ∀ w1 w2, R w1 → Keep w1 w2 (· = w.heap.size) → R w2)
    (hc : Calls Tryd.prog k cap (w.alloc (.cells #[.bool false] 4)) fun e w' => e = .returned (.bool b) ∧ Keep (w.alloc (.cells #[.bool false] 4)) w' (· = g2) ∧ R w') :
    Calls Tryd.prog 52 #[.func (.func k) #[] cap] w fun e w' => e = .returned (.bool b) ∧ Keep w w' (· = g2) ∧ R w' :=
  try_keep k cap b (fun w' => Keep w w' (· = g2) ∧ R w') w hk (fun w1 w2 ⟨h1, h2⟩ k => ⟨h1.trans k (fun i hi e => by omega), hR w1 w2 h2 k⟩)
    (hc.mono fun e w' ⟨he, h1, h2⟩ => ⟨he, (Blk.new w _ _).keep h1 (by omega), ((Keep.refl w _).alloc _).trans h1 fun _ _ e => e, h2⟩)

set_option maxHeartbeats 1600000 in
theorem marshal_walk {p : Nat → Prop} {hd : Hd} {sv xv : Value} {off : Int} (w : World) (hS : Rd w p 1 sv hd.srcs.length (U32 hd.srcs)) (hX : XR w p xv hd.exts) (hg : Good hd) (hn : hd.exts.length ≤ 2147483647) (hdn : ∀ x ∈ hd.exts, x.data.length ≤ 2147483647) :
    Calls Tryd.prog 55 #[.agg (rcells hd sv xv off)] w fun e w' => ∃ g c, e = .returned (.tuple #[.slice (some ⟨g, 0, none⟩) (outB hd).length c, .nilIface]) ∧
      Own w' w.heap.size 5 1 (.slice (some ⟨g, 0, none⟩) (outB hd).length c) (outB hd).length (B8 (outB hd)) ∧ Keep w w' Nul := by
  replace hS := hS.mono (q := (· < w.heap.size)) (fun k hk _ => hk)
  replace hX := hX.mono (q := (· < w.heap.size)) (fun k hk _ => hk)
  have hs : hd.srcs.length ≤ 2147483647 := by have := hg.srcs; omega
  have hsz := hsize_le hg
  have hso := hsize_out hg
  have hM0 := fun (wa : World) (k : Keep w wa Nul) => msize_walk (off := off) wa (hS.keep0 k) (hX.keep0 k) hs hn hdn
  have hT0 := fun (wa : World) (g : Nat) (k : Keep w wa Nul) (hB : Buf wa g [] (Z8 (hsize hd))) (hgw : w.heap.size ≤ g) => mto_walk (off := off) wa (hS.keep0 k) (hX.keep0 k) (fun k hk => by omega) hB hg (Nat.le_refl _) (by omega) hn hdn
  have HM := hide hM0
  have HT := hide hT0
  have HSO := hide hso
  have HHN := hide hdn
  obtain ⟨A1, c1, rfl⟩ := hS.shape
  obtain ⟨A2, c2, rfl⟩ := hX.shape
  clear hS hX hM0 hT0 hso hdn
  have HRC : (rcells hd (.slice A1 hd.srcs.length c1) (.slice A2 hd.exts.length c2) off) = #[.int .u8 hd.v, .bool hd.pad, .bool hd.ext, .bool hd.mark, .int .u8 hd.ty, .int .u16 hd.seq, .int .u32 hd.time, .int .u32 hd.ssrc, .slice A1 hd.srcs.length c1, .int .u16 hd.prof, .slice A2 hd.exts.length c2, .int .u8 hd.padn, .int .i64 off] := rfl
  have mkB := run_mk etB (hsize hd) (by omega) (by omega)
  have MKB := hide mkB
  clear mkB
  rw [HRC]
  go_enter Tryd.func55, Tryd.ntmps55
  go_upto_region 1 with fail
  generalize hwa : World.alloc w _ = wa
  have BX := hide (show Blk wa w.heap.size 108 (rcells hd (.slice A1 hd.srcs.length c1) (.slice A2 hd.exts.length c2) off) by subst hwa; exact Blk.new w _ _)
  have KA := hide (show Keep w wa Nul by subst hwa; exact (Keep.refl w Nul).alloc _)
  generalize hv0 : Value.agg _ = v0
  clear hwa hv0
  have XOf : ∀ w', Blk w' w.heap.size 108 (rcells hd (.slice A1 hd.srcs.length c1) (.slice A2 hd.exts.length c2) off) → (w'.cell? ⟨w.heap.size, 0, none⟩ = some (.int .u8 hd.v) ∧ w'.cell? ⟨w.heap.size, 1, none⟩ = some (.bool hd.pad) ∧ w'.cell? ⟨w.heap.size, 2, none⟩ = some (.bool hd.ext) ∧ w'.cell? ⟨w.heap.size, 3, none⟩ = some (.bool hd.mark) ∧ w'.cell? ⟨w.heap.size, 4, none⟩ = some (.int .u8 hd.ty) ∧ w'.cell? ⟨w.heap.size, 5, none⟩ = some (.int .u16 hd.seq) ∧ w'.cell? ⟨w.heap.size, 6, none⟩ = some (.int .u32 hd.time) ∧ w'.cell? ⟨w.heap.size, 7, none⟩ = some (.int .u32 hd.ssrc) ∧ w'.cell? ⟨w.heap.size, 8, none⟩ = some (.slice A1 hd.srcs.length c1) ∧ w'.cell? ⟨w.heap.size, 9, none⟩ = some (.int .u16 hd.prof) ∧ w'.cell? ⟨w.heap.size, 10, none⟩ = some (.slice A2 hd.exts.length c2) ∧ w'.cell? ⟨w.heap.size, 11, none⟩ = some (.int .u8 hd.padn) ∧ w'.cell? ⟨w.heap.size, 12, none⟩ = some (.int .i64 off)) := fun w' h => ⟨h.cell 0 rfl, h.cell 1 rfl, h.cell 2 rfl, h.cell 3 rfl, h.cell 4 rfl, h.cell 5 rfl, h.cell 6 rfl, h.cell 7 rfl, h.cell 8 rfl, h.cell 9 rfl, h.cell 10 rfl, h.cell 11 rfl, h.cell 12 rfl⟩
  have XO := hide XOf
  clear XOf
  have HM1 := hide (HM.out wa KA.out)
  obtain ⟨x0, x1, x2, x3, x4, x5, x6, x7, x8, x9, x10, x11, x12⟩ := XO.out _ BX.out
  go_wp2_with fail
  refine Calls.mono (show Calls _ _ #[.agg (rcells hd (.slice A1 hd.srcs.length c1) (.slice A2 hd.exts.length c2) off)] _ _ from HM1.out) ?_
  rintro e w1 ⟨rfl, k1⟩
  have BX1 := hide (BX.out.keep k1 id)
  have K1 := hide (KA.out.trans0 k1)
  clear x0 x1 x2 x3 x4 x5 x6 x7 x8 x9 x10 x11 x12 k1
  have mkB := MKB.out
  simp only [Nat.mul_one] at mkB
  go_upto_region 2 with fail
  generalize hw2 : World.alloc w1 _ = w2
  have KZ := K1.out.size
  have BB := hide (show Buf w2 w1.heap.size [] (Z8 (hsize hd)) by subst hw2; exact Buf.mk' (Blk.new w1 _ _))
  have K2 := hide (show Keep w w2 Nul by subst hw2; exact K1.out.alloc _)
  have BX2 := hide (show Blk w2 w.heap.size 108 (rcells hd (.slice A1 hd.srcs.length c1) (.slice A2 hd.exts.length c2) off) by subst hw2; exact BX1.out.alloc _)
  clear hw2 mkB
  obtain ⟨x0, x1, x2, x3, x4, x5, x6, x7, x8, x9, x10, x11, x12⟩ := XO.out _ BX2.out
  have HT1 := hide (HT.out w2 w1.heap.size K2.out BB.out KZ)
  go_wp2_with fail
  refine Calls.mono (show Calls _ _ #[.agg (rcells hd (.slice A1 hd.srcs.length c1) (.slice A2 hd.exts.length c2) off), _] _ _ from HT1.out) ?_
  rintro e w3 ⟨rfl, b3, k3⟩
  have B3 := hide b3
  have K3 := hide (K2.out.trans k3 fun i hi e => by omega)
  clear x0 x1 x2 x3 x4 x5 x6 x7 x8 x9 x10 x11 x12 b3 k3
  go_wp2_with fail
  go_ret2
  have b3 := B3.out
  rw [Nat.sub_self] at b3
  have ho := b3.own (B := w.heap.size) (n := hsize hd) (cap := hsize hd) KZ HSO.out (by rw [HSO.out]; simp [Z8_len]) (by simp only [maxLen]; omega)
  rw [← HSO.out]
  exact ⟨_, _, rfl, ho, K3.out⟩
end Go.Proofs.YtdmnflngafbobaaDoor
