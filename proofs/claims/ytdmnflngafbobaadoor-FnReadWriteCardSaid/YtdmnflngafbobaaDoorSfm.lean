/-
  The reference's Format of a packet. Conditions: those that stand in each theorem.
-/
import Derived.Test.YtdmnflngafbobaaDoorGPk
import Derived.Test.YtdmnflngafbobaaDoorApz
namespace Go.Proofs.YtdmnflngafbobaaDoor
open Go.RowKit
set_option linter.unusedVariables false
set_option linter.unusedSimpArgs false
set_option maxRecDepth 100000

theorem fmtB_ge {hd : Hd} {bs : List Int} (hok : hd.Ok) (h : fmtB hd = some bs) : 12 ≤ bs.length ∧ bs.length ≤ 262216 := by
  obtain ⟨h1, h2, _⟩ := good_fmt hok h
  have := hsize_le h1
  rw [hsize_out h1, h2] at this
  have hl := headB_len hd
  refine ⟨?_, this⟩
  rw [← h2]
  unfold outB
  rw [List.length_append]
  omega

set_option maxHeartbeats 1600000 in
theorem sfmt_walk {p : Nat → Prop} {v : Value} {hd : Hd} {data : List Int} (w : World) (hh : PV w p v hd data) (hok : hd.Ok) (hn : hd.exts.length ≤ 2147483647) (hnp : data.length ≤ 2147483647) :
    Calls Tryd.prog 22 #[v] w fun e w' => Keep w w' Nul ∧ ∃ A n c, e = .returned (.tuple #[.slice A n c, .bool (fmtB hd).isSome]) ∧ ∀ bs, fmtB hd = some bs → Own w' w.heap.size 5 1 (.slice A n c) (bs ++ data ++ padB hd).length (B8 (bs ++ data ++ padB hd)) := by
  obtain ⟨sv, xv, A0, c0, rfl, q1, q2, q3⟩ := hh
  replace q1 := q1.mono (q := (· < w.heap.size)) (fun k hk _ => hk)
  replace q2 := q2.mono (q := (· < w.heap.size)) (fun k hk _ => hk)
  replace q3 := q3.mono (q := (· < w.heap.size)) (fun k hk _ => hk)
  have hF0 := fun (wa : World) (k : Keep w wa Nul) => fmt_walk wa (⟨sv, xv, rfl, q1.keep0 k, q2.keep0 k⟩ : HV wa (· < w.heap.size) (.agg (hcells hd sv xv)) hd) hok hn
  have HF := hide hF0
  have HR := hide q3
  have HOK := hide hok
  obtain ⟨A1, c1, rfl⟩ := q1.shape
  obtain ⟨A2, c2, rfl⟩ := q2.shape
  clear q1 q2 q3 hF0 hok
  obtain ⟨m, hm⟩ : ∃ m, m = data.length := ⟨_, rfl⟩
  have HM := hide hm
  rw [← hm] at HR hnp ⊢
  clear hm
  unfold kcells
  go_enter Tryd.func22, Tryd.ntmps22
  go_upto_region 1 with fail
  generalize hwa : World.alloc w _ = wa
  have BX := hide (show Blk wa w.heap.size 40 (kcells hd (.slice A1 hd.srcs.length c1) (.slice A2 hd.exts.length c2) (.slice A0 m c0)) by subst hwa; exact Blk.new w _ _)
  have KA := hide (show Keep w wa Nul by subst hwa; exact (Keep.refl w Nul).alloc _)
  generalize hv0 : Value.agg _ = v0
  clear hwa hv0
  obtain ⟨x0, x1, x2, x3, x4, x5, x6, x7, x8, x9, x10, x11, x12⟩ := kc13 BX.out
  have hF1 := hide (HF.out wa KA.out)
  go_wp2_with fail
  refine Calls.mono (show Calls _ _ #[.agg (hcells hd (.slice A1 hd.srcs.length c1) (.slice A2 hd.exts.length c2))] _ _ from hF1.out) ?_
  rintro e w1 ⟨k1, A, n, c, rfl, ho⟩
  have K1 := hide (KA.out.trans0 k1)
  have BX1 := hide (BX.out.keep k1 id)
  have hz0 := KA.out.size
  clear x0 x1 x2 x3 x4 x5 x6 x7 x8 x9 x10 x11 x12
  cases hf : fmtB hd with
  | none =>
    have HFn := hide hf
    have hfs : (fmtB hd).isSome = false := by rw [hf]; rfl
    clear hf ho k1
    go_wp2_with fail
    go_ret2
    exact ⟨K1.out, none, 0, 0, by rw [HFn.out]; rfl, fun bs h => by rw [HFn.out] at h; cases h⟩
  | some bs =>
    have hob := ho bs hf
    have hln : n = bs.length := by
      obtain ⟨_, _, _, e, _⟩ := hob.rd
      injection e
    subst hln
    obtain ⟨hb1, hb2⟩ := fmtB_ge HOK.out hf
    obtain ⟨hg, -, hpd⟩ := good_fmt HOK.out hf
    have hpn := hg.ok.padn
    have HO := hide (hob.low hz0)
    have HPD := hide hpd
    have HS := hide (src_of_rd (P := Tryd.prog) w1 Tryd.underlying29 (HR.out.keep0 K1.out) (B8_one _))
    have hs : (fmtB hd).isSome = true := by rw [hf]; rfl
    have HFs := hide hf
    have hsz1 := K1.out.size
    have x12 := BX1.out.cell 12 (v := .slice A0 m c0) rfl
    clear hf ho hob hg hpd k1
    go_upto_region 5 with (at_builtin; go_loud (refine wpList_app etB rfl _ _ rfl HO.out rfl HS.out rfl (by simp only [maxLen]; omega) (by omega) (by omega) ?_); intro v2 w2 o2 k2 b2 z2 u2)
    have BX2 := hide (BX1.out.keep k2 (HO.out.ne_ BX1.out (by decide)))
    have K2 := hide (K1.out.trans k2 fun i hi e => by have := (HO.out.at_ i e).1; omega)
    have O2 := hide (show Own w2 w.heap.size 5 1 v2 (bs.length + m) (B8 (bs ++ data)) by rw [B8_app]; exact o2)
    have hsz2 := K2.out.size
    clear x12 o2 k2 b2 hs
    cases hp : hd.pad
    · have x1 := BX2.out.cell 1 (v := .bool false) (by rw [← hp]; rfl)
      have epd : padB hd = [] := by unfold padB; rw [hp]; rfl
      have EPD := hide epd
      clear epd hp
      obtain ⟨A5, c5, rfl⟩ := O2.out.rd.shape
      go_wp2_with fail
      go_ret2
      refine ⟨K2.out, A5, _, c5, by rw [HFs.out]; rfl, fun bs' h => ?_⟩
      rw [HFs.out] at h
      cases h
      have := O2.out
      rw [EPD.out, List.append_nil, show (bs ++ data).length = bs.length + m by rw [List.length_append, HM.out]]
      exact this
    · have x1 := BX2.out.cell 1 (v := .bool true) (by rw [← hp]; rfl)
      have hpos : 0 < hd.padn := by have := HPD.out; rw [hp] at this; simpa using this.symm
      have epd : padB hd = List.replicate (hd.padn.toNat - 1) 0 ++ [hd.padn] := by unfold padB; rw [hp]; rfl
      have EPD := hide epd
      have lb2 := BX2.out.lt
      have BX2d := hide BX2.out.drew
      have x11 := BX2d.out.cell 11 (v := .int .u8 hd.padn) rfl
      have HNE := hide (O2.out.ne_ BX2.out (by decide))
      have O2d := hide (O2.out.keep0 ((Keep.refl w2 Nul).drew))
      clear epd hp
      have hw8 : IntKind.u8.wrap (hd.padn - 1) = hd.padn - 1 := by rw [IntKind.wrap_u8]; omega
      have hzt : hd.padn - 1 = ((hd.padn.toNat - 1 : Nat) : Int) := by omega
      have HZT := hide hzt
      clear hzt
      go_upto_region 6 with fail
      go_region_held3 (fun w' => w'.cell? ⟨w.heap.size, 11, none⟩ = some (.int .u8 hd.padn))
        (first | exact x11 | exact (BX2d.out.alloc _).cell 11 rfl | exact x11a | exact BA.out.cell 11 rfl | exact (BA.out.alloc _).cell 11 rfl | exact BF.out.cell 11 rfl)
        (first
          | (refine step_appz etB Tryd.underlying5 (by rfl) _ _ (by rfl) O2d.out (by rfl) (by omega) (hd.padn.toNat - 1) HZT.out (by rfl) (by omega) (by omega) hsz2 ?_; intro v3 w3 o3 k3 b3 z3 y3; have BA := hide (BX2d.out.keep k3 HNE.out); have O3 := hide o3; have K3 := hide k3; have hz3 : w.heap.size ≤ w3.heap.size := Nat.le_trans hsz2 y3; clear o3 k3 b3 z3)
          | (refine step_appz etB Tryd.underlying5 (by rfl) _ _ (by rfl) (O2d.out.alloc _) (by rfl) (by omega) (hd.padn.toNat - 1) HZT.out (by rfl) (by omega) (by omega) (Nat.le_trans hsz2 (((Keep.refl w2 Nul).drew).alloc _).size) ?_; intro v3 w3 o3 k3 b3 z3 y3; have BA := hide ((BX2d.out.alloc _).keep k3 HNE.out); have O3 := hide o3; have K3 := hide (((Keep.refl w2.drew (fun k => v2.ownBlock = some k)).alloc _).trans k3 fun _ _ e => e); have RS := hide ((Own.of_lit (e := 5) (sz := 1) w2.drew #[.int .u8 hd.padn] 1 (by simp [maxLen]) rfl).rd.keep k3 (fun i hi hp e => Nat.lt_irrefl _ ((show w2.drew.heap.size = i from Option.some.inj hp) ▸ (O2d.out.at_ i e).2.1))); have hz3 : w.heap.size ≤ w3.heap.size := Nat.le_trans hsz2 (Nat.le_trans (((Keep.refl w2 Nul).drew).alloc (.cells #[.int .u8 hd.padn] 5)).size y3); clear o3 k3 b3 z3)
          | (refine step_app etB (by rfl) _ _ (by rfl) (O3.out.alloc _) (by rfl) (src_lit (n := 1) Tryd.underlying29 [hd.padn] (by rfl) (by first | rfl | simp only [World.size_alloc]) rfl (by simp [maxLen])) (by rfl) (by simp only [maxLen]; omega) (by omega) (by simp only [World.size_alloc]; exact Nat.le_succ_of_le hz3) ?_; intro v4 w4 o4 k4 b4 z4 u4; have hne3 := O3.out.ne_ BA.out (by decide); have BF := hide ((BA.out.alloc _).keep k4 hne3); have O4 := hide o4; have K4 := hide (((Keep.refl w3 (fun k => v3.ownBlock = some k)).alloc _).trans k4 fun _ _ e => e); clear o4 k4 b4 z4 u4)
          | (refine step_app etB (by rfl) _ _ (by rfl) O3.out (by rfl) (src_of_rd _ Tryd.underlying29 RS.out (B8_one [hd.padn])) (by rfl) (by simp only [maxLen]; omega) (by omega) hz3 ?_; intro v4 w4 o4 k4 b4 z4 u4; have hne3 := O3.out.ne_ BA.out (by decide); have BF := hide (BA.out.keep k4 hne3); have O4 := hide o4; have K4 := hide k4; clear o4 k4 b4 z4 u4))
      all_goals
        have KE := hide (show Keep w w4 Nul from ((K2.out.drew).trans K3.out (fun i hi e => by have := (O2.out.at_ i e).1; omega)).trans K4.out (fun i hi e => by have := (O3.out.at_ i e).1; omega))
        have O5 := hide (show Own w4 w.heap.size 5 1 v4 (bs.length + m + (hd.padn.toNat - 1) + 1) (B8 (bs ++ data) ++ List.replicate (hd.padn.toNat - 1) (Value.int .u8 0) ++ [.int .u8 hd.padn]) from O4.out)
        obtain ⟨A6, c6, rfl⟩ := O5.out.rd.shape
        clear hw8 O4 x11
        go_wp2_with fail
        go_ret2
        refine ⟨KE.out, A6, _, c6, by rw [HFs.out]; rfl, fun bs' h => ?_⟩
        rw [HFs.out] at h
        cases h
        have ho := O5.out
        have e1 : B8 (bs ++ (data ++ padB hd)) = B8 (bs ++ data) ++ List.replicate (hd.padn.toNat - 1) (Value.int .u8 0) ++ [.int .u8 hd.padn] := by
          rw [EPD.out]
          simp [B8]
        have e2 : bs.length + (data.length + (padB hd).length) = bs.length + m + (hd.padn.toNat - 1) + 1 := by
          rw [EPD.out, HM.out]; simp; omega
        (try simp only [List.append_assoc, List.length_append])
        (try simp only [List.append_assoc] at e1)
        rw [e1, e2]
        (try simp only [List.append_assoc] at ho)
        exact ho
end Go.Proofs.YtdmnflngafbobaaDoor
