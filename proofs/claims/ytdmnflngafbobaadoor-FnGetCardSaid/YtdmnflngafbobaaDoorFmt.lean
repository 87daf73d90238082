/-
  The reference's FormatHeader: what it writes. Conditions: those that stand in each theorem.
-/
import Derived.Test.YtdmnflngafbobaaDoorExt
import Derived.Deep.DeepCutAuto
import Derived.Deep.RegionWith
import Derived.Deep.RegionHeld3
import Derived.Deep.QuietTactic
import Derived.BigQuiet
import Derived.Deep.Light
namespace Go.Proofs.YtdmnflngafbobaaDoor
open Go.RowKit
set_option linter.unusedVariables false
set_option linter.unusedSimpArgs false
set_option maxRecDepth 20000

theorem Own.drew {w : World} {B : Nat} {e : TypeId} {sz n : Nat} {v : Value} {xs : List Value} (h : Own w B e sz v n xs) : Own w.drew B e sz v n xs := h.keep0 ((Keep.refl w Nul).drew)

def hb0 (h : Hd) : Int := 128 + h.srcs.length + (if h.pad then 32 else 0) + (if h.ext then 16 else 0)
def hb1 (h : Hd) : Int := h.ty + (if h.mark then 128 else 0)
/-- The bytes of a header ahead of its extensions. -/
def headB (h : Hd) : List Int := hb0 h :: hb1 h :: (by16 h.seq ++ by32 h.time ++ by32 h.ssrc ++ h.srcs.flatMap by32)
def badB (h : Hd) : Prop := h.v ≠ 2 ∨ 15 < h.srcs.length ∨ 127 < h.ty ∨ (h.ext = false ∧ h.exts ≠ []) ∨ h.pad ≠ decide (0 < h.padn)
instance (h : Hd) : Decidable (badB h) := by unfold badB; infer_instance
/-- The bytes of a header. -/
def fmtB (h : Hd) : Option (List Int) :=
  if badB h then none
  else if h.ext = false then some (headB h)
  else match extsB h.prof h.exts with
    | none => none
    | some e => if 262140 < e.length then none else some (headB h ++ by16 h.prof ++ by16 (e.length / 4) ++ e)

set_option maxHeartbeats 3200000 in
theorem fmt_bad {p : Nat → Prop} {v : Value} {hd : Hd} (w : World) (hh : HV w p v hd) (hb : badB hd) :
    Calls Tryd.prog 51 #[v] w fun e w' => Keep w w' Nul ∧ e = .returned (.tuple #[.slice none 0 0, .bool false]) := by
  obtain ⟨sv, xv, rfl, h1, h2⟩ := hh
  obtain ⟨A1, c1, rfl⟩ := h1.shape
  obtain ⟨A2, c2, rfl⟩ := h2.shape
  have HB := hide hb
  clear h1 h2 hb
  unfold hcells at *
  go_enter Tryd.func51, Tryd.ntmps51
  go_upto_region 3 with fail
  all_goals first
    | (go_ret2; exact ⟨(Keep.refl _ _).alloc _, rfl⟩)
    | skip
  all_goals go_light
  all_goals
    exfalso
    have hb := HB.out
    have hp : 0 < hd.exts.length ↔ hd.exts ≠ [] := List.length_pos_iff
    clear HB
    unfold badB at hb
    cases hpd : hd.pad <;> by_cases hq : 0 < hd.padn <;> simp_all <;> omega

theorem or_pad : ∀ n : Nat, n < 16 → bits .or .u8 (128 + (n : Int)) 32 = 128 + (n : Int) + 32 := by decide +kernel
theorem or_ext0 : ∀ n : Nat, n < 16 → bits .or .u8 (128 + (n : Int)) 16 = 128 + (n : Int) + 16 := by decide +kernel
theorem or_ext1 : ∀ n : Nat, n < 16 → bits .or .u8 (128 + (n : Int) + 32) 16 = 128 + (n : Int) + 32 + 16 := by decide +kernel

theorem good_of {hd : Hd} (hb : ¬ badB hd) : hd.v = 2 ∧ (hd.srcs.length : Int) ≤ 15 ∧ hd.ty ≤ 127 ∧ (hd.ext = false → hd.exts = []) ∧ (!hd.pad == decide (0 < hd.padn)) = false := by
  unfold badB at hb
  refine ⟨by omega, by omega, by omega, fun he => ?_, ?_⟩
  · by_cases q : hd.exts = []
    · exact q
    · exact absurd (.inr (.inr (.inr (.inl ⟨he, q⟩)))) hb
  · have : hd.pad = decide (0 < hd.padn) := by
      by_cases q : hd.pad = decide (0 < hd.padn)
      · exact q
      · exact absurd (.inr (.inr (.inr (.inr q)))) hb
    rw [this]; simp

set_option maxHeartbeats 3200000 in
theorem fmt_ext {p : Nat → Prop} {v : Value} {hd : Hd} (w : World) (hh : HV w p v hd) (hok : hd.Ok) (hb : ¬ badB hd) (he : hd.ext = true) (hn : hd.exts.length ≤ 2147483647) :
    Calls Tryd.prog 51 #[v] w fun e w' => Keep w w' Nul ∧
      ((extsB hd.prof hd.exts = none ∧ e = .returned (.tuple #[.slice none 0 0, .bool false])) ∨
       ∃ es, extsB hd.prof hd.exts = some es ∧ ((262140 < es.length ∧ e = .returned (.tuple #[.slice none 0 0, .bool false])) ∨
        (es.length ≤ 262140 ∧ ∃ out, e = .returned (.tuple #[out, .bool true]) ∧ Own w' w.heap.size 5 1 out (headB hd ++ by16 hd.prof ++ by16 (es.length / 4) ++ es).length (B8 (headB hd ++ by16 hd.prof ++ by16 (es.length / 4) ++ es))))) := by
  obtain ⟨sv, xv, rfl, h1, h2⟩ := hh.mono (q := (· < w.heap.size)) (fun k hk _ => hk)
  obtain ⟨A1, c1, rfl⟩ := h1.shape
  obtain ⟨A2, c2, rfl⟩ := h2.shape
  obtain ⟨a1, a2, a3, a4, a5⟩ := good_of hb
  have H1 := hide h1
  have H2 := hide h2
  have HO := hide hok
  have HB := hide hb
  clear h1 h2 hb hok
  unfold hcells at *
  go_enter Tryd.func51, Tryd.ntmps51
  go_upto_region 3 with fail
  clear a4 a5
  go_quiet (fail)
  generalize hwa : World.drewN _ nq = wa
  have BX : Hid (Blk wa w.heap.size 27 (hcells hd (.slice A1 hd.srcs.length c1) (.slice A2 hd.exts.length c2))) := hide (by
    subst hwa
    unfold hcells
    rw [a1, he]
    exact Blk.new w _ _)
  have hK : Keep w wa Nul := by
    subst hwa
    exact ((Keep.refl w Nul).alloc _).drewN _
  have HK := hide hK
  have b1 := BX.out.cell 1 (v := .bool hd.pad) rfl
  have b2 := BX.out.cell 2 (v := .bool hd.ext) rfl
  have b3 := BX.out.cell 3 (v := .bool hd.mark) rfl
  rw [he] at b2
  have HA := hide hwa
  clear hwa hK
  generalize hv0 : Value.agg _ = v0
  clear hv0
  have HT := hide HO.out.ty
  have hl : hd.srcs.length < 16 := by omega
  go_upto_if 55 with fail
  go_cut [4] (fun s4 wx => s4 = .int .u8 (128 + hd.srcs.length + (if hd.pad then 32 else 0)) ∧ wx = wa)
  case first =>
    cases hp : hd.pad
    · go_wp2_with fail
      go_meet
      exact ⟨by simp [hp], rfl⟩
    · have eo := or_pad _ hl
      go_wp2_with fail
      go_meet
      exact ⟨by simp [hp], rfl⟩
  case rest =>
  obtain ⟨rfl, rfl⟩ := hcut
  go_upto_if 59 with fail
  go_cut [4] (fun s4 wx => s4 = .int .u8 (hb0 hd) ∧ wx = wc)
  case first =>
    have e0 : hb0 hd = 128 + (hd.srcs.length : Int) + (if hd.pad then 32 else 0) + 16 := by simp [hb0, he]
    cases hp : hd.pad
    · have eo := or_ext0 _ hl
      rw [hp] at e0
      go_wp2_with fail
      go_meet
      exact ⟨by rw [e0]; simp [hp], rfl⟩
    · have eo := or_ext1 _ hl
      rw [hp] at e0
      go_wp2_with fail
      go_meet
      exact ⟨by rw [e0]; simp [hp], rfl⟩
  case rest =>
  obtain ⟨rfl, rfl⟩ := hcut
  go_upto_if 63 with fail
  go_cut [5] (fun s5 wx => s5 = .int .u8 (hb1 hd) ∧ wx = wc)
  case first =>
    cases hp : hd.mark
    · go_wp2_with fail
      go_meet
      exact ⟨by simp [hb1, hp], rfl⟩
    · have eo : bits .or .u8 hd.ty 128 = hd.ty + 128 := or8' 7 _ _ HT.out.1 (by omega) (by decide) (by omega) (by omega) (by decide)
      go_wp2_with fail
      go_meet
      exact ⟨by simp [hb1, hp], rfl⟩
  case rest =>
  obtain ⟨rfl, rfl⟩ := hcut
  go_upto_region 10 with fail
  obtain ⟨wz, hwz⟩ : ∃ wz, wz = wc := ⟨_, rfl⟩
  subst hwz
  have b5 := BX.out.cell 5 (v := .int .u16 hd.seq) rfl
  have b6 := BX.out.cell 6 (v := .int .u32 hd.time) rfl
  have b7 := BX.out.cell 7 (v := .int .u32 hd.ssrc) rfl
  have bl := BX.out.lt
  have BX0 := hide (BX.out.alloc (.cells #[.int .u8 (hb0 hd), .int .u8 (hb1 hd)] 5))
  have O0 := hide (Own.of_lit (e := 5) (sz := 1) wz #[.int .u8 (hb0 hd), .int .u8 (hb1 hd)] 2 (by simp [maxLen]) rfl)
  have kseq := HO.out.seq
  have ktime := HO.out.time
  have kssrc := HO.out.ssrc
  go_cut [6] (fun s6 wx => Keep wz wx Nul ∧ Own wx wz.heap.size 5 1 s6 12 (B8 (hb0 hd :: hb1 hd :: (by16 hd.seq ++ by32 hd.time ++ by32 hd.ssrc))))
  case first =>
    go_region_held3 (fun w' => w'.cell? ⟨w.heap.size, 5, none⟩ = some (.int .u16 hd.seq) ∧ w'.cell? ⟨w.heap.size, 6, none⟩ = some (.int .u32 hd.time) ∧ w'.cell? ⟨w.heap.size, 7, none⟩ = some (.int .u32 hd.ssrc))
      (first | exact ⟨b5, b6, b7⟩ | exact ⟨BX0.out.cell 5 rfl, BX0.out.cell 6 rfl, BX0.out.cell 7 rfl⟩ | exact ⟨bx1.cell 5 rfl, bx1.cell 6 rfl, bx1.cell 7 rfl⟩ | exact ⟨bx2.cell 5 rfl, bx2.cell 6 rfl, bx2.cell 7 rfl⟩ | exact ⟨bx3.cell 5 rfl, bx3.cell 6 rfl, bx3.cell 7 rfl⟩)
      (first
        | (go_at_call 93; refine (p16_walk _ hd.seq O0.out.drew kseq (by omega) (by simp)).mono ?_; rintro e w1 ⟨v1, rfl, o1, k1⟩; have bx1 := BX0.out.drew.keep k1.1 (O0.out.drew.ne_ BX0.out.drew (by decide)))
        | (go_at_call_of 92 (Value.int IntKind.u32 hd.time); refine (p32_walk _ hd.time o1 ktime (by omega) (by have s1 := k1.1.size; simp at s1; omega)).mono ?_; rintro e w2 ⟨v2, rfl, o2, k2⟩; have bx2 := bx1.keep k2.1 (o1.ne_ bx1 (by decide)))
        | (go_at_call_of 92 (Value.int IntKind.u32 hd.ssrc); refine (p32_walk _ hd.ssrc o2 kssrc (by omega) (by have s1 := k1.1.size; have s2 := k2.1.size; simp at s1; omega)).mono ?_; rintro e w3 ⟨v3, rfl, o3, k3⟩; have bx3 := bx2.keep k3.1 (o2.ne_ bx2 (by decide))))
    have hk3 := ((k1.trans k2).trans k3).keep O0.out.drew (((Keep.refl wz Nul).alloc _).drew) (Nat.le_refl _)
    have HO3 := hide o3
    clear o1 o2 o3 k1 k2 k3
    go_wp2_with fail
    go_meet
    refine ⟨hk3, ?_⟩
    have := HO3.out
    simpa [B8] using this
  case rest =>
  obtain ⟨KC, OC⟩ := hcut
  have HC := hide (HK.out.trans0 KC)
  have HS := hide (H1.out.keep0 HC.out)
  have BC := hide (BX.out.keep KC id)
  have HKC := hide KC
  have HOC := hide OC
  have b8 := BC.out.cell 8 (v := .slice A1 hd.srcs.length c1) rfl
  have hsrc := hide HO.out.srcs
  generalize hw12 : hb0 hd :: hb1 hd :: (by16 hd.seq ++ by32 hd.time ++ by32 hd.ssrc) = h12 at *
  have H12 := hide hw12
  clear b1 b2 b3 b5 b6 b7 O0 BX0 KC OC hw12
  go_wp2_with fail
  go_loopw [6, 81] (fun u i wr => ∃ k : Nat, k ≤ hd.srcs.length ∧ i = .int .i64 k ∧ Own wr wz.heap.size 5 1 u (12 + 4 * k) (B8 (h12 ++ (hd.srcs.take k).flatMap by32)) ∧ Keep wz wr Nul ∧ Rd wr (· < w.heap.size) 1 (.slice A1 hd.srcs.length c1) hd.srcs.length (U32 hd.srcs)) (fun _ i _ => hd.srcs.length - (intOf i).toNat)
  case atStart => exact ⟨0, Nat.zero_le _, rfl, by simpa using HOC.out, HKC.out, HS.out⟩
  case round =>
    obtain ⟨k, hk, rfl, hO, hK, hR⟩ := hrel
    by_cases hlt : k < hd.srcs.length
    · obtain ⟨b, o, c', hv, q1, q2, q3, q4, q5⟩ := hR.lit (by omega)
      injection hv with e1 _ e3
      subst e1 e3
      have hg : hd.srcs[k]? = some hd.srcs[k] := List.getElem?_eq_getElem _
      have hc := q5 k _ (show (U32 hd.srcs)[k]? = some (.int .u32 hd.srcs[k]) by simp [U32, hg])
      have hx := hsrc.out _ (List.mem_of_getElem? hg)
      have HG := hide hg
      have HR := hide hR
      have HK' := hide hK
      have HO' := hide hO
      have hzz := hK.size
      clear q5 hg hR hK hO
      generalize hd.srcs[k] = x at *
      go_wp2_with fail
      refine (p32_walk _ x HO'.out hx (by omega) (by omega)).mono ?_
      rintro e w1 ⟨v1, rfl, o1, k1⟩
      have HO1 := hide o1
      have HK1 := hide (k1.keep HO'.out HK'.out (Nat.le_refl _))
      have HR1 := hide ((H1.out.keep0 HK.out).keep0 HK1.out)
      clear o1 k1
      go_wp2_with fail
      go_roundw
      case rel =>
        refine ⟨k + 1, by omega, by go_num, ?_, HK1.out, HR1.out⟩
        obtain ⟨hk', e⟩ := List.getElem?_eq_some_iff.1 HG.out
        rw [List.take_succ_eq_append_getElem hk', e, List.flatMap_append, ← List.append_assoc, B8_app]
        rw [show 12 + 4 * (k + 1) = 12 + 4 * k + 4 by omega]
        simpa using HO1.out
      case measure => simp [intOf]; omega
    · obtain rfl : k = hd.srcs.length := by omega
      have e0 : h12 ++ (hd.srcs.take hd.srcs.length).flatMap by32 = headB hd := by
        rw [List.take_length, ← H12.out]; simp [headB]
      rw [e0] at hO
      have HO' := hide hO
      have HK' := hide hK
      clear hO hK hR
      have BC' := hide (BX.out.keep HK'.out id)
      have c0 := BC'.out.cell 0 (v := .int .u8 hd.v) rfl
      have c1' := BC'.out.cell 1 (v := .bool hd.pad) rfl
      have c2' := BC'.out.cell 2 (v := .bool hd.ext) rfl
      have c3' := BC'.out.cell 3 (v := .bool hd.mark) rfl
      have c4' := BC'.out.cell 4 (v := .int .u8 hd.ty) rfl
      have c5' := BC'.out.cell 5 (v := .int .u16 hd.seq) rfl
      have c6' := BC'.out.cell 6 (v := .int .u32 hd.time) rfl
      have c7' := BC'.out.cell 7 (v := .int .u32 hd.ssrc) rfl
      have c8' := BC'.out.cell 8 (v := .slice A1 hd.srcs.length c1) rfl
      have c9' := BC'.out.cell 9 (v := .int .u16 hd.prof) rfl
      have c10' := BC'.out.cell 10 (v := .slice A2 hd.exts.length c2) rfl
      have c11' := BC'.out.cell 11 (v := .int .u8 hd.padn) rfl
      rw [he] at c2'
      clear b8
      have HVV : ∀ v, v = .agg (hcells hd (.slice A1 hd.srcs.length c1) (.slice A2 hd.exts.length c2)) → HV _ (· < w.heap.size) v hd := fun v hv => ⟨_, _, hv, (H1.out.keep0 HK.out).keep0 HK'.out, (H2.out.keep0 HK.out).keep0 HK'.out⟩
      have HVV := hide HVV
      have HKW := hide (HK.out.trans0 HK'.out)
      have hsz := HK'.out.size
      go_wp2_with fail
      refine (ext_walk _ (HVV.out _ (by simp [hcells, he, a1])) HO.out hn).mono ?_
      rintro e w2 ⟨k2, out, rfl, hbs⟩
      have HK2 := hide (HKW.out.trans0 k2)
      have HKz := hide (HK'.out.trans0 k2)
      have HO2 := hide (HO'.out.keep0 k2)
      have BC2 := hide (BC'.out.keep k2 id)
      have hsz2 := k2.size
      clear HVV
      cases hes : extsB hd.prof hd.exts with
      | none =>
        clear hbs k2 c0 c1' c2' c3' c4' c5' c6' c7' c8' c9' c10' c11'
        have HES := hide hes
        clear hes
        go_wp2_with fail
        go_ret2
        exact ⟨HK2.out, .inl ⟨HES.out, rfl⟩⟩
      | some es =>
        have hr := hbs es hes
        obtain ⟨A3, c3, rfl⟩ := hr.shape
        have c9 := BC2.out.cell 9 (v := .int .u16 hd.prof) rfl
        have bl2 := BC2.out.lt
        have HR := hide hr
        have HES := hide hes
        have hprof := HO.out.prof
        clear hbs k2 c0 c1' c2' c3' c4' c5' c6' c7' c8' c9' c10' c11' hr hes
        by_cases hbig : (262140 : Int) < es.length
        · go_wp2_with fail
          go_ret2
          exact ⟨HK2.out, .inr ⟨es, HES.out, .inl ⟨by omega, rfl⟩⟩⟩
        · have hat := hide HO'.out.at_
          have hlt := HK.out.size
          go_wp2_with fail
          refine (p16_walk _ hd.prof HO2.out hprof (by omega) (by omega)).mono ?_
          rintro e w3 ⟨v3, rfl, o3, k3⟩
          have HO3 := hide o3
          have HK3 := hide k3
          have hs3 := k3.1.size
          clear o3 k3
          go_wp2_with fail
          refine (p16_walk _ ((es.length : Int) / 4) HO3.out (by omega) (by omega) (by omega)).mono ?_
          rintro e w4 ⟨v4, rfl, o4, k4⟩
          have HO4 := hide o4
          have HK4 := hide (HK3.out.trans k4)
          have hs4 := k4.1.size
          have HR4 := hide (HR.out.keep HK4.out.1 (fun i hi hp e => by have := hat.out i e; rcases hp with hp | hp <;> omega))
          clear o4 k4
          go_wp2_with (at_builtin; go_loud (refine wpList_app etB rfl _ _ rfl HO4.out rfl (src_of_rd _ Tryd.underlying29 HR4.out (B8_one _)) rfl (by simp only [maxLen]; omega) (by omega) (by omega) ?_); intro v5 w5 o5 k5 b5 z5 _)
          go_ret2
          have g5 := HK4.out.trans (Grew.of k5 b5)
          refine ⟨HK.out.trans0 (g5.keep HO2.out HKz.out (Nat.le_refl _)), .inr ⟨es, HES.out, .inr ⟨by omega, _, rfl, ?_⟩⟩⟩
          have ho := o5.low (B' := w.heap.size) hlt
          have hl : (headB hd).length = 12 + 4 * hd.srcs.length := by have := HO'.out.rd.len; rwa [B8_len] at this
          have hl16 : ∀ x, (by16 x).length = 2 := fun _ => rfl
          simp only [List.length_append, hl, hl16, B8_app]
          exact ho
set_option maxHeartbeats 3200000 in
theorem fmt_plain {p : Nat → Prop} {v : Value} {hd : Hd} (w : World) (hh : HV w p v hd) (hok : hd.Ok) (hb : ¬ badB hd) (he : hd.ext = false) :
    Calls Tryd.prog 51 #[v] w fun e w' => Keep w w' Nul ∧ ∃ out, e = .returned (.tuple #[out, .bool true]) ∧ Own w' w.heap.size 5 1 out (headB hd).length (B8 (headB hd)) := by
  obtain ⟨sv, xv, rfl, h1, h2⟩ := hh.mono (q := (· < w.heap.size)) (fun k hk _ => hk)
  obtain ⟨A1, c1, rfl⟩ := h1.shape
  obtain ⟨A2, c2, rfl⟩ := h2.shape
  obtain ⟨a1, a2, a3, a4, a5⟩ := good_of hb
  have hx0 : hd.exts.length = 0 := by rw [a4 he]; rfl
  have H1 := hide h1
  have H2 := hide h2
  have HO := hide hok
  have HB := hide hb
  clear h1 h2 hb hok
  unfold hcells at *
  go_enter Tryd.func51, Tryd.ntmps51
  go_upto_region 3 with fail
  clear a4 a5
  go_quiet (fail)
  generalize hwa : World.drewN _ nq = wa
  have BX : Hid (Blk wa w.heap.size 27 (hcells hd (.slice A1 hd.srcs.length c1) (.slice A2 hd.exts.length c2))) := hide (by
    subst hwa
    unfold hcells
    rw [a1, he, hx0]
    exact Blk.new w _ _)
  have hK : Keep w wa Nul := by
    subst hwa
    exact ((Keep.refl w Nul).alloc _).drewN _
  have HK := hide hK
  have b1 := BX.out.cell 1 (v := .bool hd.pad) rfl
  have b2 := BX.out.cell 2 (v := .bool hd.ext) rfl
  have b3 := BX.out.cell 3 (v := .bool hd.mark) rfl
  rw [he] at b2
  have HA := hide hwa
  clear hwa hK
  generalize hv0 : Value.agg _ = v0
  clear hv0
  have HT := hide HO.out.ty
  have hl : hd.srcs.length < 16 := by omega
  go_upto_if 55 with fail
  go_cut [4] (fun s4 wx => s4 = .int .u8 (128 + hd.srcs.length + (if hd.pad then 32 else 0)) ∧ wx = wa)
  case first =>
    cases hp : hd.pad
    · go_wp2_with fail
      go_meet
      exact ⟨by simp [hp], rfl⟩
    · have eo := or_pad _ hl
      go_wp2_with fail
      go_meet
      exact ⟨by simp [hp], rfl⟩
  case rest =>
  obtain ⟨rfl, rfl⟩ := hcut
  go_upto_if 59 with fail
  go_cut [4] (fun s4 wx => s4 = .int .u8 (hb0 hd) ∧ wx = wc)
  case first =>
    have e0 : hb0 hd = 128 + (hd.srcs.length : Int) + (if hd.pad then 32 else 0) := by simp [hb0, he]
    cases hp : hd.pad <;> rw [hp] at e0
    · go_wp2_with fail
      go_meet
      exact ⟨by rw [e0]; simp [hp], rfl⟩
    · go_wp2_with fail
      go_meet
      exact ⟨by rw [e0]; simp [hp], rfl⟩
  case rest =>
  obtain ⟨rfl, rfl⟩ := hcut
  go_upto_if 63 with fail
  go_cut [5] (fun s5 wx => s5 = .int .u8 (hb1 hd) ∧ wx = wc)
  case first =>
    cases hp : hd.mark
    · go_wp2_with fail
      go_meet
      exact ⟨by simp [hb1, hp], rfl⟩
    · have eo : bits .or .u8 hd.ty 128 = hd.ty + 128 := or8' 7 _ _ HT.out.1 (by omega) (by decide) (by omega) (by omega) (by decide)
      go_wp2_with fail
      go_meet
      exact ⟨by simp [hb1, hp], rfl⟩
  case rest =>
  obtain ⟨rfl, rfl⟩ := hcut
  go_upto_region 10 with fail
  obtain ⟨wz, hwz⟩ : ∃ wz, wz = wc := ⟨_, rfl⟩
  subst hwz
  have b5 := BX.out.cell 5 (v := .int .u16 hd.seq) rfl
  have b6 := BX.out.cell 6 (v := .int .u32 hd.time) rfl
  have b7 := BX.out.cell 7 (v := .int .u32 hd.ssrc) rfl
  have bl := BX.out.lt
  have BX0 := hide (BX.out.alloc (.cells #[.int .u8 (hb0 hd), .int .u8 (hb1 hd)] 5))
  have O0 := hide (Own.of_lit (e := 5) (sz := 1) wz #[.int .u8 (hb0 hd), .int .u8 (hb1 hd)] 2 (by simp [maxLen]) rfl)
  have kseq := HO.out.seq
  have ktime := HO.out.time
  have kssrc := HO.out.ssrc
  go_cut [6] (fun s6 wx => Keep wz wx Nul ∧ Own wx wz.heap.size 5 1 s6 12 (B8 (hb0 hd :: hb1 hd :: (by16 hd.seq ++ by32 hd.time ++ by32 hd.ssrc))))
  case first =>
    go_region_held3 (fun w' => w'.cell? ⟨w.heap.size, 5, none⟩ = some (.int .u16 hd.seq) ∧ w'.cell? ⟨w.heap.size, 6, none⟩ = some (.int .u32 hd.time) ∧ w'.cell? ⟨w.heap.size, 7, none⟩ = some (.int .u32 hd.ssrc))
      (first | exact ⟨b5, b6, b7⟩ | exact ⟨BX0.out.cell 5 rfl, BX0.out.cell 6 rfl, BX0.out.cell 7 rfl⟩ | exact ⟨bx1.cell 5 rfl, bx1.cell 6 rfl, bx1.cell 7 rfl⟩ | exact ⟨bx2.cell 5 rfl, bx2.cell 6 rfl, bx2.cell 7 rfl⟩ | exact ⟨bx3.cell 5 rfl, bx3.cell 6 rfl, bx3.cell 7 rfl⟩)
      (first
        | (go_at_call 93; refine (p16_walk _ hd.seq O0.out.drew kseq (by omega) (by simp)).mono ?_; rintro e w1 ⟨v1, rfl, o1, k1⟩; have bx1 := BX0.out.drew.keep k1.1 (O0.out.drew.ne_ BX0.out.drew (by decide)))
        | (go_at_call_of 92 (Value.int IntKind.u32 hd.time); refine (p32_walk _ hd.time o1 ktime (by omega) (by have s1 := k1.1.size; simp at s1; omega)).mono ?_; rintro e w2 ⟨v2, rfl, o2, k2⟩; have bx2 := bx1.keep k2.1 (o1.ne_ bx1 (by decide)))
        | (go_at_call_of 92 (Value.int IntKind.u32 hd.ssrc); refine (p32_walk _ hd.ssrc o2 kssrc (by omega) (by have s1 := k1.1.size; have s2 := k2.1.size; simp at s1; omega)).mono ?_; rintro e w3 ⟨v3, rfl, o3, k3⟩; have bx3 := bx2.keep k3.1 (o2.ne_ bx2 (by decide))))
    have hk3 := ((k1.trans k2).trans k3).keep O0.out.drew (((Keep.refl wz Nul).alloc _).drew) (Nat.le_refl _)
    have HO3 := hide o3
    clear o1 o2 o3 k1 k2 k3
    go_wp2_with fail
    go_meet
    refine ⟨hk3, ?_⟩
    have := HO3.out
    simpa [B8] using this
  case rest =>
  obtain ⟨KC, OC⟩ := hcut
  have HC := hide (HK.out.trans0 KC)
  have HS := hide (H1.out.keep0 HC.out)
  have BC := hide (BX.out.keep KC id)
  have HKC := hide KC
  have HOC := hide OC
  have b8 := BC.out.cell 8 (v := .slice A1 hd.srcs.length c1) rfl
  have hsrc := hide HO.out.srcs
  generalize hw12 : hb0 hd :: hb1 hd :: (by16 hd.seq ++ by32 hd.time ++ by32 hd.ssrc) = h12 at *
  have H12 := hide hw12
  clear b1 b2 b3 b5 b6 b7 O0 BX0 KC OC hw12
  go_wp2_with fail
  go_loopw [6, 81] (fun u i wr => ∃ k : Nat, k ≤ hd.srcs.length ∧ i = .int .i64 k ∧ Own wr wz.heap.size 5 1 u (12 + 4 * k) (B8 (h12 ++ (hd.srcs.take k).flatMap by32)) ∧ Keep wz wr Nul ∧ Rd wr (· < w.heap.size) 1 (.slice A1 hd.srcs.length c1) hd.srcs.length (U32 hd.srcs)) (fun _ i _ => hd.srcs.length - (intOf i).toNat)
  case atStart => exact ⟨0, Nat.zero_le _, rfl, by simpa using HOC.out, HKC.out, HS.out⟩
  case round =>
    obtain ⟨k, hk, rfl, hO, hK, hR⟩ := hrel
    by_cases hlt : k < hd.srcs.length
    · obtain ⟨b, o, c', hv, q1, q2, q3, q4, q5⟩ := hR.lit (by omega)
      injection hv with e1 _ e3
      subst e1 e3
      have hg : hd.srcs[k]? = some hd.srcs[k] := List.getElem?_eq_getElem _
      have hc := q5 k _ (show (U32 hd.srcs)[k]? = some (.int .u32 hd.srcs[k]) by simp [U32, hg])
      have hx := hsrc.out _ (List.mem_of_getElem? hg)
      have HG := hide hg
      have HR := hide hR
      have HK' := hide hK
      have HO' := hide hO
      have hzz := hK.size
      clear q5 hg hR hK hO
      generalize hd.srcs[k] = x at *
      go_wp2_with fail
      refine (p32_walk _ x HO'.out hx (by omega) (by omega)).mono ?_
      rintro e w1 ⟨v1, rfl, o1, k1⟩
      have HO1 := hide o1
      have HK1 := hide (k1.keep HO'.out HK'.out (Nat.le_refl _))
      have HR1 := hide ((H1.out.keep0 HK.out).keep0 HK1.out)
      clear o1 k1
      go_wp2_with fail
      go_roundw
      case rel =>
        refine ⟨k + 1, by omega, by go_num, ?_, HK1.out, HR1.out⟩
        obtain ⟨hk', e⟩ := List.getElem?_eq_some_iff.1 HG.out
        rw [List.take_succ_eq_append_getElem hk', e, List.flatMap_append, ← List.append_assoc, B8_app]
        rw [show 12 + 4 * (k + 1) = 12 + 4 * k + 4 by omega]
        simpa using HO1.out
      case measure => simp [intOf]; omega
    · obtain rfl : k = hd.srcs.length := by omega
      have e0 : h12 ++ (hd.srcs.take hd.srcs.length).flatMap by32 = headB hd := by
        rw [List.take_length, ← H12.out]; simp [headB]
      rw [e0] at hO
      have HO' := hide hO
      have HK' := hide hK
      clear hO hK hR
      have BC' := hide (BX.out.keep HK'.out id)
      have c2' := BC'.out.cell 2 (v := .bool hd.ext) rfl
      rw [he] at c2'
      clear b8
      have hlt := HK.out.size
      go_wp2_with fail
      go_ret2
      refine ⟨HK.out.trans0 HK'.out, _, rfl, ?_⟩
      have hl : (headB hd).length = 12 + 4 * hd.srcs.length := by have := HO'.out.rd.len; rwa [B8_len] at this
      rw [hl]
      exact HO'.out.low hlt

/-- The bytes of a header: the reference's FormatHeader. -/
theorem fmt_walk {p : Nat → Prop} {v : Value} {hd : Hd} (w : World) (hh : HV w p v hd) (hok : hd.Ok) (hn : hd.exts.length ≤ 2147483647) :
    Calls Tryd.prog 51 #[v] w fun e w' => Keep w w' Nul ∧ ∃ A n c, e = .returned (.tuple #[.slice A n c, .bool (fmtB hd).isSome]) ∧ ∀ bs, fmtB hd = some bs → Own w' w.heap.size 5 1 (.slice A n c) bs.length (B8 bs) := by
  by_cases hb : badB hd
  · refine (fmt_bad w hh hb).mono fun e w' ⟨hk, he⟩ => ⟨hk, none, 0, 0, ?_, fun bs h => ?_⟩
    · simpa [fmtB, hb] using he
    · simp [fmtB, hb] at h
  cases he : hd.ext
  · refine (fmt_plain w hh hok hb he).mono fun e w' ⟨hk, out, hr, ho⟩ => ⟨hk, ?_⟩
    have e0 : fmtB hd = some (headB hd) := by simp [fmtB, hb, he]
    obtain ⟨A, c, rfl⟩ := ho.rd.shape
    exact ⟨A, _, c, by rw [e0]; exact hr, fun bs h => by rw [e0] at h; cases h; exact ho⟩
  · refine (fmt_ext w hh hok hb he hn).mono fun e w' ⟨hk, h⟩ => ⟨hk, ?_⟩
    rcases h with ⟨h0, hr⟩ | ⟨es, h0, ⟨h1, hr⟩ | ⟨h1, out, hr, ho⟩⟩
    · have e0 : fmtB hd = none := by simp [fmtB, hb, he, h0]
      exact ⟨none, 0, 0, by rw [e0]; exact hr, fun bs h => by rw [e0] at h; cases h⟩
    · have e0 : fmtB hd = none := by simp [fmtB, hb, he, h0, h1]
      exact ⟨none, 0, 0, by rw [e0]; exact hr, fun bs h => by rw [e0] at h; cases h⟩
    · have e0 : fmtB hd = some (headB hd ++ by16 hd.prof ++ by16 (es.length / 4) ++ es) := by
        have : ¬ 262140 < es.length := by omega
        simp [fmtB, hb, he, h0, this]
      obtain ⟨A, c, rfl⟩ := ho.rd.shape
      exact ⟨A, _, c, by rw [e0]; exact hr, fun bs h => by rw [e0] at h; cases h; exact ho⟩
end Go.Proofs.YtdmnflngafbobaaDoor
